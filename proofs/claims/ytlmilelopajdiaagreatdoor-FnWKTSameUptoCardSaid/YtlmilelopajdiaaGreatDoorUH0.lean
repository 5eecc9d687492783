/-
  The statement's side: strides, names, numbers.
-/
import Derived.Test.YtlmilelopajdiaaGreatDoorUF2
import Derived.Deep.DeepCutAuto
import Derived.Deep.CutBlock
namespace Go.Proofs.YtlmilelopajdiaaGreatDoor
open Go.RowKit

theorem specStride (l : Int) (h0 : 0 ≤ l) (w : World) : Calls Tryz.prog 13 #[.int .i64 l] w fun e w' => e = .returned (.int .i64 (stride l)) ∧ w = w' := by
  by_cases h : l = 0 ∨ l = 1 ∨ l = 2 ∨ l = 3
  · rcases h with rfl | rfl | rfl | rfl
    all_goals
      go_enter Tryz.func13, Tryz.ntmps13
      go_wp2_with fail
      go_ret
      exact ⟨rfl, rfl⟩
  · have hs : Hid (stride l = l) := Lib.hid (by unfold stride; split <;> (try split) <;> (try split) <;> (try split) <;> (try split) <;> omega)
    have b0 : ¬ l < 1 := by omega
    have b1 : (l == 1) = false := beq_eq_false_iff_ne.2 (by omega)
    have b2 : (l == 2) = false := beq_eq_false_iff_ne.2 (by omega)
    have b3 : (l == 3) = false := beq_eq_false_iff_ne.2 (by omega)
    clear h
    go_enter Tryz.func13, Tryz.ntmps13
    go_wp2_with fail
    go_ret
    exact ⟨by rw [hs.out]; rfl, rfl⟩
/-- A kind's name. -/
def kindN (k : Int) : List UInt8 := if k = 1 then [80, 79, 73, 78, 84] else if k = 2 then [76, 73, 78, 69, 83, 84, 82, 73, 78, 71] else if k = 8 then [76, 73, 78, 69, 83, 84, 82, 73, 78, 71]
  else if k = 3 then [80, 79, 76, 89, 71, 79, 78] else if k = 4 then [77, 85, 76, 84, 73, 80, 79, 73, 78, 84] else if k = 5 then [77, 85, 76, 84, 73, 76, 73, 78, 69, 83, 84, 82, 73, 78, 71]
  else if k = 6 then [77, 85, 76, 84, 73, 80, 79, 76, 89, 71, 79, 78] else [71, 69, 79, 77, 69, 84, 82, 89, 67, 79, 76, 76, 69, 67, 84, 73, 79, 78]
theorem kindName (k : Int) (h : 1 ≤ k) (h8 : k ≤ 8) (w : World) : Calls Tryz.prog 14 #[.int .i64 k] w fun e w' => e = .returned (.string ⟨(kindN k).toArray⟩) ∧ w = w' := by
  have hk8 : k = 1 ∨ k = 2 ∨ k = 3 ∨ k = 4 ∨ k = 5 ∨ k = 6 ∨ k = 7 ∨ k = 8 := by omega
  rcases hk8 with rfl | rfl | rfl | rfl | rfl | rfl | rfl | rfl
  all_goals
    go_enter Tryz.func14, Tryz.ntmps14
    go_wp2_with fail
    go_ret
    exact ⟨rfl, rfl⟩
theorem nameT_eq (k : Int) : nameT k = kindN k ++ [32] := by
  unfold nameT kindN
  repeat' split
  all_goals rfl
theorem specCover (a b : Int) (ha : 0 ≤ a) (ha9 : a ≤ 9) (hb : 0 ≤ b) (hb9 : b ≤ 9) (w : World) : Calls Tryz.prog 22 #[.int .i64 a, .int .i64 b] w fun e w' => e = .returned (.int .i64 (cover a b)) ∧ w = w' := by
  have ha' : a = 0 ∨ a = 1 ∨ a = 2 ∨ a = 3 ∨ a = 4 ∨ a = 5 ∨ a = 6 ∨ a = 7 ∨ a = 8 ∨ a = 9 := by omega
  have hb' : b = 0 ∨ b = 1 ∨ b = 2 ∨ b = 3 ∨ b = 4 ∨ b = 5 ∨ b = 6 ∨ b = 7 ∨ b = 8 ∨ b = 9 := by omega
  by_cases h : (a = 2 ∧ b = 3) ∨ (a = 3 ∧ b = 2)
  · rcases h with ⟨rfl, rfl⟩ | ⟨rfl, rfl⟩
    all_goals
      go_enter Tryz.func22, Tryz.ntmps22
      go_wp2_with fail
      go_ret
      exact ⟨rfl, rfl⟩
  · have hc : Hid (cover a b = max a b) := Lib.hid (by unfold cover; split <;> (try split) <;> (try split) <;> omega)
    have hnot : (a = 2 → ¬ b = 3) ∧ (a = 3 → ¬ b = 2) := by omega
    clear ha' hb' h
    by_cases h2 : a = 2
    · subst h2
      have h3 : (b == 3) = false := beq_eq_false_iff_ne.2 (hnot.1 rfl)
      go_enter Tryz.func22, Tryz.ntmps22
      go_wp2_with fail
      go_ret
      exact ⟨by rw [hc.out]; rfl, rfl⟩
    · have t2 : (a == 2) = false := beq_eq_false_iff_ne.2 h2
      by_cases h3 : a = 3
      · subst h3
        have h4 : (b == 2) = false := beq_eq_false_iff_ne.2 (hnot.2 rfl)
        go_enter Tryz.func22, Tryz.ntmps22
        go_wp2_with fail
        go_ret
        exact ⟨by rw [hc.out]; rfl, rfl⟩
      · have t3 : (a == 3) = false := beq_eq_false_iff_ne.2 h3
        clear h2 h3 hnot
        go_enter Tryz.func22, Tryz.ntmps22
        go_wp2_with fail
        go_ret
        exact ⟨by rw [hc.out]; rfl, rfl⟩
theorem kidOf (k : Int) (h : k = 4 ∨ k = 5) (w : World) : Calls Tryz.prog 59 #[.int .i64 k] w fun e w' => e = .returned (.int .i64 (k - 3)) ∧ w = w' := by
  rcases h with rfl | rfl
  all_goals
    go_enter Tryz.func59, Tryz.ntmps59
    go_wp2_with fail
    go_ret
    exact ⟨rfl, rfl⟩
theorem trimC_not (c : UInt8) (t : List UInt8) (h : c ∉ t) : trimC c t = t := by
  rcases List.eq_nil_or_concat t with rfl | ⟨L, b, rfl⟩
  · rfl
  · have hb : (b == c) = false := by rw [beq_eq_false_iff_ne]; intro e; exact h (by simp [e])
    unfold trimC
    simp [hb]
set_option maxRecDepth 100000 in
set_option maxHeartbeats 2000000 in
theorem writeNumber (x : Nat) (dg : Int) (hx : x < 18446744073709551616) (h0 : -1 ≤ dg) (h1 : dg ≤ 20) (B : Nat) (w : World) (hT : Tabs B w) (hB : B ≤ w.heap.size) :
    Calls Tryz.prog 52 #[.float .f64 x, .int .i64 dg] w fun e w' => e = .returned (.string ⟨(numS dg x).toArray⟩) ∧ Below w.heap.size w w' := by
  obtain ⟨hok, hcall⟩ := numT_ok x dg hx h0 h1
  obtain ⟨s, hs⟩ : ∃ s, s = numT x dg := ⟨_, rfl⟩
  have HC := Lib.hid (hcall B w hT hB)
  rw [← hs] at hok HC
  have HS := Lib.hid hs
  have hlen := hok.len
  have HD := Lib.hid hok.dots
  have hba := ba_size s
  have hmax : max (-1) dg = dg := by omega
  clear hcall hok hT hs
  by_cases hd : dg ≤ 0
  · have HN : Hid (numS dg x = s) := Lib.hid (by unfold numS; rw [if_neg (by omega), HS.out])
    go_enter Tryz.func52, Tryz.ntmps52
    go_wp2_with fail
    refine HC.out.mono ?_
    rintro en w' ⟨rfl, hb⟩
    have HB := Lib.hid hb
    clear hb HC
    go_wp2_with fail
    go_ret
    exact ⟨by rw [HN.out]; rfl, HB.out⟩
  · have HN : Hid (numS dg x = trimC 46 (trimC 48 s)) := Lib.hid (by unfold numS; rw [if_pos (by omega), HS.out])
    go_enter Tryz.func52, Tryz.ntmps52
    go_wp2_with fail
    refine HC.out.mono ?_
    rintro en w2 ⟨rfl, hb⟩
    have HB := Lib.hid hb
    clear hb HC
    go_wp2_with fail
    go_loopg [6] s.length (fun g v6 wr => v6 = .int .i64 (g : Nat) ∧ w2 = wr ∧ g ≤ s.length ∧ Hid (trimC 48 (s.take g) = trimC 48 s))
    case atStart => exact ⟨rfl, rfl, Nat.le_refl _, Lib.hid (by rw [List.take_length])⟩
    case round =>
      obtain ⟨rfl, rfl, hg, hT⟩ := hrel
      by_cases h0 : gk = 0
      · subst h0
        have hx := sext s 0 (Nat.zero_le _)
        have hz : Hid (trimC 46 (trimC 48 s) = s.take 0) := Lib.hid (by rw [← hT.out]; rfl)
        go_wp2_with fail
        go_ret
        exact ⟨by rw [HN.out, hz.out]; rfl, HB.out⟩
      · obtain ⟨m, rfl⟩ : ∃ m, gk = m + 1 := ⟨gk - 1, by omega⟩
        have hm1 : ((m + 1 : Nat) : Int) - 1 = (m : Int) := by omega
        have hmp : ((m + 1 : Nat) : Int) > 0 := by omega
        have hix := sidx s m (by omega)
        by_cases hz : s[m] = 48
        · have hn : ((s[m].toNat : Int) == 48) = true := by rw [hz]; rfl
          have HT' : Hid (trimC 48 (s.take m) = trimC 48 s) := Lib.hid (by rw [← hT.out]; exact (trimC_go 48 s m (by omega) hz).symm)
          clear hz h0
          go_wp2_with fail
          go_roundg m
          case measure => omega
          case rel => exact ⟨by go_num, rfl, by omega, HT'⟩
        · have hn : ((s[m].toNat : Int) == 48) = false := by rw [beq_eq_false_iff_ne]; intro e; exact hz (UInt8.toNat_inj.1 (by show s[m].toNat = 48; omega))
          have HT' : Hid (trimC 48 s = s.take (m + 1)) := Lib.hid (by rw [← hT.out]; exact trimC_stop 48 s m (by omega) hz)
          clear hz h0
          by_cases hp : s[m] = 46
          · have hq : ((s[m].toNat : Int) == 46) = true := by rw [hp]; rfl
            have hx := sext s m (by omega)
            have HR : Hid (trimC 46 (trimC 48 s) = s.take m) := Lib.hid (by
              rw [HT'.out, trimC_go 46 s m (by omega) hp]
              refine trimC_not _ _ fun hin => ?_
              have h5 := HD.out
              have h6 : (s.take (m + 1)).count 46 ≤ s.count 46 := (List.take_sublist _ _).count_le 46
              rw [take_snoc s m (by omega), List.count_append, hp] at h6
              have h7 := List.count_pos_iff.2 hin
              simp at h6
              omega)
            clear hp
            go_wp2_with fail
            go_ret
            exact ⟨by rw [HN.out, HR.out]; rw [← ext_take s m]; rfl, HB.out⟩
          · have hq : ((s[m].toNat : Int) == 46) = false := by rw [beq_eq_false_iff_ne]; intro e; exact hp (UInt8.toNat_inj.1 (by show s[m].toNat = 46; omega))
            have hx := sext s (m + 1) (by omega)
            have HR : Hid (trimC 46 (trimC 48 s) = s.take (m + 1)) := Lib.hid (by rw [HT'.out]; exact trimC_stop 46 s m (by omega) hp)
            clear hp
            go_wp2_with fail
            go_ret
            exact ⟨by rw [HN.out, HR.out]; rw [← ext_take s (m + 1)]; rfl, HB.out⟩
end Go.Proofs.YtlmilelopajdiaaGreatDoor

/-
  The statement's side: places; the layout of a geometry.
-/
namespace Go.Proofs.YtlmilelopajdiaaGreatDoor
open Go.RowKit

noncomputable def plT (dg : Int) (st : Nat) (xs : List Nat) : List UInt8 := if xs = [] then EMPTY else lineS dg st xs
theorem ba_app (s t : List UInt8) : (⟨s.toArray⟩ : ByteArray) ++ ⟨t.toArray⟩ = ⟨(s ++ t).toArray⟩ := by
  apply ByteArray.ext
  simp
theorem strAdd (s t : List UInt8) (h : s.length + t.length ≤ 100000000000000) (w : World) : (binOp .add 9 (.string ⟨s.toArray⟩) (.string ⟨t.toArray⟩)).run Tryz.prog w = .ok (.string ⟨(s ++ t).toArray⟩) w := by
  have e : (binOp .add 9 (.string ⟨s.toArray⟩) (.string ⟨t.toArray⟩)).run Tryz.prog w = (Op.stringOp .add ⟨s.toArray⟩ ⟨t.toArray⟩).run Tryz.prog w := by kernel_rfl
  refine e.trans ?_
  rw [← ba_app]
  have hn : ¬ ((9223372036854775807 : Int) < ((ByteArray.size ⟨s.toArray⟩ : Nat) : Int) + ((ByteArray.size ⟨t.toArray⟩ : Nat) : Int)) := by rw [ba_size, ba_size]; omega
  simp [Op.stringOp, hn]

set_option maxRecDepth 100000 in
set_option maxHeartbeats 2000000 in
theorem places (xs : List Nat) (dg : Int) (st B : Nat) (v : Value) (w : World) (h : Row w B v (xs.map fv)) (hx : ∀ x ∈ xs, x < 18446744073709551616) (hT : Tabs B w) (hB : B ≤ w.heap.size) (d0 : -1 ≤ dg) (d1 : dg ≤ 20) (hst : 1 ≤ st) (hst2 : st ≤ 1000) (hlen : (lineS dg st xs).length ≤ 70000000000000) :
    Calls Tryz.prog 24 #[v, .int .i64 (st : Nat), .int .i64 dg] w fun e w' => e = .returned (.string ⟨(plT dg st xs).toArray⟩) ∧ Below w.heap.size w w' := by
  obtain ⟨a, cap, rfl, hc, hc2, _, hcell⟩ := h
  have hl0 : (xs.map fv).length = xs.length := List.length_map ..
  rw [hl0] at hc hc2 ⊢
  by_cases hx0 : xs = []
  · have hP : Hid (plT dg st xs = EMPTY) := Lib.hid (by unfold plT; rw [if_pos hx0])
    have hz : xs.length = 0 := by rw [hx0]; rfl
    rw [hz]
    clear hcell hl0 hx hx0 hlen
    go_enter Tryz.func24, Tryz.ntmps24
    go_wp2_with fail
    go_ret
    exact ⟨by rw [hP.out]; rfl, Below.refl _ _⟩
  · have hP : Hid (plT dg st xs = lineS dg st xs) := Lib.hid (by unfold plT; rw [if_neg hx0])
    obtain ⟨b, o, rfl, hbB, hce⟩ := hcell (by intro h; exact hx0 (List.map_eq_nil_iff.1 h))
    obtain ⟨N, hN⟩ : ∃ N, N = xs.length := ⟨_, rfl⟩
    have hN0 : 0 < N := by rw [hN]; exact List.length_pos_iff.2 hx0
    have HC : Hid (∀ k, k < N → ∃ x, xs.getD k 0 = x ∧ x < 18446744073709551616 ∧ w.cell? ⟨b, o + k, none⟩ = some (.float .f64 x)) := Lib.hid (by
      intro k hk
      rw [hN] at hk
      refine ⟨xs[k], by rw [List.getD, List.getElem?_eq_getElem hk]; rfl, hx _ (List.getElem_mem hk), hce k _ (by rw [List.getElem?_map, List.getElem?_eq_getElem hk]; rfl)⟩)
    have hll : (lineS dg st xs).length = (rowN dg st xs N).length + 2 := by unfold lineS; rw [hN]; simp
    have HR : Hid (∀ k, k ≤ N → (rowN dg st xs k).length + 2 ≤ 70000000000000) := Lib.hid (fun k hk => by have := rowN_mono dg st xs k N hk; omega)
    have HN := Lib.hid hN
    have HT := Lib.hid hT
    have hne : ((N : Int) == 0) = false := beq_eq_false_iff_ne.2 (by omega)
    rw [← hN] at hc hc2 ⊢
    obtain ⟨hN9, hc9⟩ := hc2
    clear hN hce hcell hl0 hx hx0 hlen hll hT
    go_enter Tryz.func24, Tryz.ntmps24
    go_wp2_with fail
    go_loopg [7, 15] N (fun g v7 v15 wr => ∃ k : Nat, k + g = N ∧ v15 = .int .i64 k ∧ v7 = .string ⟨([40] ++ rowN dg st xs k).toArray⟩ ∧ Hid (Below w.heap.size w wr))
    case atStart => exact ⟨0, by omega, rfl, by simp [rowN], Lib.hid (Below.refl _ _)⟩
    case round =>
      obtain ⟨k, hk, rfl, rfl, HB⟩ := hrel
      obtain ⟨O, hO⟩ : ∃ O, O = [40] ++ rowN dg st xs k := ⟨_, rfl⟩
      have hOl : O.length ≤ 70000000000000 := by rw [hO]; have := HR.out k (by omega); simp; omega
      rw [← hO]
      by_cases hkn : k < N
      · obtain ⟨x, hx, hxb, hcx⟩ := HC.out k hkn
        have hcl : wr.cell? ⟨b, o + k, none⟩ = some (.float .f64 x) := by rw [HB.out.cell (by show b < _; omega)]; exact hcx
        obtain ⟨sep, hsep⟩ : ∃ sep : List UInt8, sep = if k = 0 then [] else if k % st = 0 then [44, 32] else [32] := ⟨_, rfl⟩
        have hsl : sep.length ≤ 2 := by rw [hsep]; split <;> (try split) <;> simp
        have HQ : Hid ([40] ++ rowN dg st xs (k + 1) = O ++ sep ++ numS dg x) := Lib.hid (by rw [rowN_succ, ← hx, hO, hsep]; simp)
        have hA1 : ∀ w, (binOp .add 9 (.string ⟨O.toArray⟩) (.string ⟨#[44, 32]⟩)).run Tryz.prog w = .ok (.string ⟨(O ++ [44, 32]).toArray⟩) w := fun w => strAdd O [44, 32] (by simp; omega) w
        have hA2 : ∀ w, (binOp .add 9 (.string ⟨O.toArray⟩) (.string ⟨#[32]⟩)).run Tryz.prog w = .ok (.string ⟨(O ++ [32]).toArray⟩) w := fun w => strAdd O [32] (by simp; omega) w
        have hrem : (k : Int).tmod (st : Int) = ((k % st : Nat) : Int) := rfl
        have HWN := Lib.hid (fun w' (hb : Below w.heap.size w w') => writeNumber x dg hxb d0 d1 B w' (HT.out.below (hb.mono hB)) (by have := hb.size; omega))
        have hnl := numS_len dg x hxb d0 d1
        have HSP := Lib.hid hsep
        clear hsep hcx hx hO
        go_upto_block 2 with (fail)
        go_cut [7] (fun v7 wx => v7 = .string ⟨(O ++ sep).toArray⟩ ∧ wr = wx)
        case first =>
          by_cases hk0 : k = 0
          · subst hk0
            have HE : Hid (O ++ sep = O) := Lib.hid (by rw [HSP.out, if_pos rfl]; simp)
            go_wp2_with fail
            go_meet
            exact ⟨by rw [HE.out], rfl⟩
          · have hki : ((k : Int) == 0) = false := beq_eq_false_iff_ne.2 (by omega)
            by_cases hm : k % st = 0
            · have HE : Hid (sep = [44, 32]) := Lib.hid (by rw [HSP.out, if_neg hk0, if_pos hm])
              rw [hm] at hrem
              clear hk0 hm
              go_wp2_with fail
              go_meet
              exact ⟨by rw [HE.out]; exact congrArg Value.string (ba_app O [44, 32]), rfl⟩
            · have HE : Hid (sep = [32]) := Lib.hid (by rw [HSP.out, if_neg hk0, if_neg hm])
              have hm2 : (((k % st : Nat) : Int) == 0) = false := beq_eq_false_iff_ne.2 (by omega)
              clear hk0 hm
              go_wp2_with fail
              go_meet
              exact ⟨by rw [HE.out]; exact congrArg Value.string (ba_app O [32]), rfl⟩
        case rest =>
          obtain ⟨rfl, rfl⟩ := hcut
          clear hA1 hA2 hcl hrem
          go_wp2_with fail
          refine (HWN.out _ HB.out).mono ?_
          rintro en w3 ⟨rfl, hb3⟩
          have HB3 := Lib.hid (HB.out.trans (hb3.mono HB.out.size))
          have hA3 : ∀ w, (binOp .add 9 (.string ⟨(O ++ sep).toArray⟩) (.string ⟨(numS dg x).toArray⟩)).run Tryz.prog w = .ok (.string ⟨(O ++ sep ++ numS dg x).toArray⟩) w := fun w => strAdd (O ++ sep) (numS dg x) (by rw [List.length_append]; omega) w
          clear hb3 HWN
          go_wp2_with fail
          go_roundg (gk - 1)
          case measure => omega
          case rel => exact ⟨k + 1, by omega, by go_num, by rw [HQ.out]; exact congrArg Value.string (ba_app (O ++ sep) (numS dg x)), HB3⟩
      · obtain rfl : k = N := by omega
        have hA1 : ∀ w, (binOp .add 9 (.string ⟨O.toArray⟩) (.string ⟨#[41]⟩)).run Tryz.prog w = .ok (.string ⟨(O ++ [41]).toArray⟩) w := fun w => strAdd O [41] (by simp; omega) w
        have HF : Hid (lineS dg st xs = O ++ [41]) := Lib.hid (by unfold lineS; rw [hO, ← HN.out])
        clear hO
        go_wp2_with fail
        go_ret
        exact ⟨by rw [hP.out, HF.out, ← ba_app O [41]]; rfl, HB.out⟩
end Go.Proofs.YtlmilelopajdiaaGreatDoor
