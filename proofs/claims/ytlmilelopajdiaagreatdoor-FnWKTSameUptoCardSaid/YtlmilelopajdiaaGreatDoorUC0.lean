/-
  fmtEFG at the format f: the digits, laid out.
-/
import Derived.Test.YtlmilelopajdiaaGreatDoorUB3
import Derived.Deep.DeepCutAuto
namespace Go.Proofs.YtlmilelopajdiaaGreatDoor
open Go.RowKit

/-- The digits that are read: in a block that is no row of bytes made by append. -/
def Src (w : World) (sb : Nat) (D : Nat → Int) (nd : Nat) : Prop := nd = 0 ∨ ∃ (cs : Array Value) (T : TypeId), w.heap[sb]? = some (.cells cs T (0, 0)) ∧ T ≠ 5 ∧ ∀ j, j < nd → cs[j]? = some (.int .u8 (D j))
/-- What has been written so far. -/
structure FB (B sb : Nat) (D : Nat → Int) (nd : Nat) (W : World) (l : List Int) (v : Value) (w : World) : Prop where
  own : w.ownsRow B 5 1 v l.length (l.map (Value.int .u8))
  src : Src w sb D nd
  below : Below B W w
  base : B ≤ W.heap.size
theorem FB.cell {B sb : Nat} {D : Nat → Int} {nd : Nat} {W : World} {l : List Int} {v : Value} {w : World} (h : FB B sb D nd W l v w) (j : Nat) (hj : j < nd) : w.cell? ⟨sb, j, none⟩ = some (.int .u8 (D j)) := by
  rcases h.src with e | ⟨cs, T, h1, h2, h3⟩
  · omega
  · rw [Lib.cell_of_heap h1, h3 j hj]
theorem FB.size {B sb : Nat} {D : Nat → Int} {nd : Nat} {W : World} {l : List Int} {v : Value} {w : World} (h : FB B sb D nd W l v w) : B ≤ w.heap.size := by
  have := h.below.size; have := h.base; omega
theorem info5 : (Tryz.prog.info? 5).map (fun i => (i.zero, i.size, i.bytes)) = some (some (.int .u8 0), 1, 1) := by kernel_rfl
theorem Src.grown {w w' : World} {sb : Nat} {D : Nat → Int} {nd : Nat} {v : Value} {B n : Nat} {xs : List Value} (h : Src w sb D nd) (hg : w.grownBy w' v.ownBlock) (hown : w.ownsRow B 5 1 v n xs) : Src w' sb D nd := by
  rcases h with e | ⟨cs, T, h1, h2, h3⟩
  · exact Or.inl e
  · refine Or.inr ⟨cs, T, ?_, h2, h3⟩
    rw [hg.block sb (lt_of_block h1) (fun e => Lib.ownBlock_ne hown h1 h2 e.symm)]; exact h1
theorem Src.alloc {w : World} {sb : Nat} {D : Nat → Int} {nd : Nat} (h : Src w sb D nd) (o : Obj) : Src (w.alloc o) sb D nd := by
  rcases h with e | ⟨cs, T, h1, h2, h3⟩
  · exact Or.inl e
  · exact Or.inr ⟨cs, T, by rw [Below.heap_alloc w o sb (lt_of_block h1)]; exact h1, h2, h3⟩
/-- One byte more. -/
theorem app1 {ops : Array Oper} {rest : List Oper} {o : Oper} {a : Act} {Q : Exit → Act → World → Prop} (hgd : o.guard = none) (s x : Operand)
    (ho : o.op = .call { callee := .builtin .append, args := #[s, x], argTypes := #[98, 98] }) {B sb : Nat} {D : Nat → Int} {nd : Nat} {W : World} {l : List Int} {v : Value} {w : World} (hF : FB B sb D nd W l v w)
    (c : Int) (hv : a.eval s = v) (hx : a.eval x = .slice (some ⟨w.heap.size, 0, none⟩) 1 1) (hl : l.length ≤ 100000)
    (hk : ∀ v' w', FB B sb D nd W (l ++ [c]) v' w' → wpList Tryz.prog ops Q rest (a.put o.dst v') w') : wpList Tryz.prog ops Q (o :: rest) a (w.alloc (.cells #[.int .u8 c] 5)) := by
  obtain ⟨i0, hi, hz0, hz1, hz2⟩ := info_parts info5
  refine wpList_append_own _ hgd s x 98 ho B 5 i0 (.int .u8 0) 1 1 Tryz.underlying98 hi hz0 hz1 hz2 rfl (by decide) v l.length _ hv (hF.own.alloc _) ⟨w.heap.size, 0, none⟩ 1 1 [.int .u8 c] hx rfl ?_ ?_ ?_ ?_ ?_ ?_
  · intro j u hj
    match j, hj with
    | 0, hj => simp at hj; subst hj; simp [Addr.add]
  · intro u hu; simp at hu; subst hu; rfl
  · unfold maxLen; omega
  · omega
  · have := hF.size; simp; omega
  · intro v' w' hown hgrow _
    refine hk v' w' ⟨by simpa using hown, (hF.src.alloc _).grown hgrow (hF.own.alloc _), (hF.below.alloc hF.size _).grown hgrow (by have := hF.size; simp; omega) (fun k hk => (hF.own.lt k hk).1), hF.base⟩
theorem FB.to {B sb : Nat} {D : Nat → Int} {nd : Nat} {W : World} {l l' : List Int} {v : Value} {w : World} (h : FB B sb D nd W l v w) (e : l = l') : FB B sb D nd W l' v w := e ▸ h

def fmtInt (D : Nat → Int) (dp : Int) (nd : Nat) : List Int :=
  if 0 < dp then (List.range (min nd dp.toNat)).map D ++ List.replicate (dp.toNat - min nd dp.toNat) 48 else [48]
def fmtLz (dp : Int) (prec : Nat) : Nat := min prec (-dp).toNat
def fmtM (dp : Int) (nd prec : Nat) : Nat := min (prec - fmtLz dp prec) ((nd : Int) - (dp + fmtLz dp prec)).toNat
def fmtFrac (D : Nat → Int) (dp : Int) (nd prec : Nat) : List Int :=
  if 0 < prec then [46] ++ List.replicate (fmtLz dp prec) 48 ++ (List.range (fmtM dp nd prec)).map (fun i => D ((dp + fmtLz dp prec).toNat + i)) ++ List.replicate (prec - fmtLz dp prec - fmtM dp nd prec) 48 else []
def fmtSign (neg : Bool) : List Int := if neg then [45] else []
def fmtL (neg : Bool) (D : Nat → Int) (dp : Int) (nd prec : Nat) : List Int := fmtSign neg ++ fmtInt D dp nd ++ fmtFrac D dp nd prec

set_option maxRecDepth 100000 in
set_option maxHeartbeats 2000000 in
theorem fmtF (B sb : Nat) (D : Nat → Int) (nd N C prec : Nat) (dp : Int) (neg sh : Bool) (ao : Option Addr) (W : World) (v : Value) (hF : FB B sb D nd W [] v W) (hao : 0 < nd → ao = some ⟨sb, 0, none⟩) (hN : nd ≤ N) (hC : N ≤ C)
    (hC2 : C ≤ 10000) (hd0 : -100000 ≤ dp) (hd1 : dp ≤ 60500) (hp : prec ≤ 10000) (pi : Int) (hpi : (0 < prec ∧ pi = prec) ∨ (prec = 0 ∧ pi ≤ 0)) :
    Calls Tryz.prog 93 #[v, .bool neg, .slice ao N C, .int .i64 dp, .int .i64 nd, .int .i64 pi, .int .u8 102, .bool sh] W fun e w' => ∃ v', e = .returned v' ∧ FB B sb D nd W (fmtL neg D dp nd prec) v' w' := by
  have HPI := Lib.hid hpi
  clear hpi
  go_enter Tryz.func93, Tryz.ntmps93
  go_upto_if 178 with (fail)
  go_cut [0] (fun v0 wx => FB B sb D nd W (fmtSign neg) v0 wx)
  case first =>
    cases neg with
    | true =>
      go_wp2_with (at_builtin; refine app1 rfl _ _ rfl hF 45 rfl rfl (by simp) ?_; intro v' w' hF')
      go_meet
      exact hF'.to rfl
    | false =>
      go_wp2_with fail
      go_meet
      exact hF.to rfl
  case rest =>
    have hl1 : (fmtSign neg).length ≤ 1 := by unfold fmtSign; split <;> simp
    have hF1 := hcut
    clear hF hcut
    go_upto_if 183 with (fail)
    go_cut [0] (fun v0 wx => FB B sb D nd W (fmtSign neg ++ fmtInt D dp nd) v0 wx)
    case first =>
      by_cases hdp : 0 < dp
      · obtain ⟨p, rfl⟩ : ∃ p : Nat, dp = (p : Int) := ⟨dp.toNat, by omega⟩
        obtain ⟨m, hm⟩ : ∃ m, m = min nd p := ⟨_, rfl⟩
        have hm1 : m ≤ nd := by omega
        have hm2 : m ≤ p := by omega
        have hmin : min (nd : Int) (p : Int) = (m : Int) := by omega
        have HI : Hid (fmtInt D (p : Int) nd = (List.range m).map D ++ List.replicate (p - m) 48) := Lib.hid (by unfold fmtInt; rw [if_pos hdp, Int.toNat_natCast, hm])
        clear hm
        rw [show decide (0 < (p : Int)) = true from decide_eq_true hdp]
        go_wp2_with fail
        obtain ⟨t, ht⟩ : ∃ t : Nat, p = m + t := ⟨p - m, by omega⟩
        have hpm : (p : Int) - (m : Int) = (t : Int) := by omega
        have HI' : Hid (fmtInt D (p : Int) nd = (List.range m).map D ++ List.replicate t 48) := Lib.hid (by rw [HI.out, show p - m = t by omega])
        clear ht HI
        go_loopg [0, 191] m (fun g v0 v191 wr => ∃ i : Nat, i + g = m ∧ v191 = .int .i64 i ∧ FB B sb D nd W (fmtSign neg ++ (List.range i).map D) v0 wr)
        case atStart => exact ⟨0, by omega, rfl, hF1.to (by simp)⟩
        case round =>
          clear hF1
          obtain ⟨i, hi, rfl, hF1⟩ := hrel
          by_cases him : i < m
          · obtain rfl := hao (by omega)
            have hc := hF1.cell i (by omega)
            have HS : Hid (fmtSign neg ++ (List.range i).map D ++ [D i] = fmtSign neg ++ (List.range (i + 1)).map D) := Lib.hid (by rw [List.range_succ]; simp)
            have hlen : (fmtSign neg ++ (List.range i).map D).length ≤ 100000 := by simp; omega
            go_wp2_with (at_builtin; refine app1 rfl _ _ rfl hF1 (D i) rfl rfl hlen ?_; intro v' w' hF')
            go_roundg (gk - 1)
            case measure => omega
            case rel => exact ⟨i + 1, by omega, by go_num, hF'.to HS.out⟩
          · obtain rfl : i = m := by omega
            go_wp2_with fail
            go_loopg [0, 203] t (fun g v0 v203 wr => ∃ k : Nat, k + g = t ∧ v203 = .int .i64 k ∧ FB B sb D nd W (fmtSign neg ++ (List.range i).map D ++ List.replicate k 48) v0 wr)
            case atStart => exact ⟨0, by omega, rfl, hF1.to (by simp)⟩
            case round =>
              clear hF1 hi him
              obtain ⟨k, hk, rfl, hF1⟩ := hrel
              by_cases hkt : k < t
              · have HS : Hid (fmtSign neg ++ (List.range i).map D ++ List.replicate k 48 ++ [48] = fmtSign neg ++ (List.range i).map D ++ List.replicate (k + 1) 48) := Lib.hid (by rw [List.replicate_succ']; simp)
                have hlen : (fmtSign neg ++ (List.range i).map D ++ List.replicate k 48).length ≤ 100000 := by simp; omega
                go_wp2_with (at_builtin; refine app1 rfl _ _ rfl hF1 48 rfl rfl hlen ?_; intro v' w' hF')
                go_roundg (gk - 1)
                case measure => omega
                case rel => exact ⟨k + 1, by omega, by go_num, hF'.to HS.out⟩
              · obtain rfl : k = t := by omega
                go_wp2_with fail
                go_meet
                exact hF1.to (by rw [HI'.out]; simp)
      · have HI : Hid (fmtInt D dp nd = [48]) := Lib.hid (by unfold fmtInt; rw [if_neg hdp])
        go_wp2_with (at_builtin; refine app1 rfl _ _ rfl hF1 48 rfl rfl (by omega) ?_; intro v' w' hF')
        go_meet
        exact hF'.to (by rw [HI.out])
    case rest =>
      have hF2 := hcut
      clear hF1 hcut
      have hl2 : (fmtSign neg ++ fmtInt D dp nd).length ≤ 70001 := by
        simp only [List.length_append]
        have : (fmtInt D dp nd).length ≤ 70000 := by
          unfold fmtInt; split
          · simp; omega
          · simp
        omega
      by_cases hpr : 0 < prec
      · obtain rfl : pi = (prec : Int) := by rcases HPI.out with h | h <;> omega
        clear HPI
        obtain ⟨A, e1⟩ : ∃ A : Nat, max 0 (-dp) = (A : Int) := ⟨(-dp).toNat, by omega⟩
        obtain ⟨lz, hlz⟩ : ∃ lz, lz = fmtLz dp prec := ⟨_, rfl⟩
        have hlz' := hlz
        unfold fmtLz at hlz'
        have e2 : min (prec : Int) (A : Int) = (lz : Int) := by omega
        have hlzp : lz ≤ prec := by omega
        obtain ⟨q, hq⟩ : ∃ q, q = prec - lz := ⟨_, rfl⟩
        have e3 : (prec : Int) - (lz : Int) = (q : Int) := by omega
        obtain ⟨OFF, e8⟩ : ∃ OFF : Int, dp + (lz : Int) = OFF := ⟨_, rfl⟩
        obtain ⟨Bn, e4⟩ : ∃ Bn : Nat, max 0 ((nd : Int) - OFF) = (Bn : Int) := ⟨((nd : Int) - OFF).toNat, by omega⟩
        obtain ⟨m, hm⟩ : ∃ m, m = fmtM dp nd prec := ⟨_, rfl⟩
        have hm' := hm
        unfold fmtM at hm'
        rw [← hlz] at hm'
        have e5 : min (q : Int) (Bn : Int) = (m : Int) := by omega
        obtain ⟨T, hT⟩ : ∃ T, T = q - m := ⟨_, rfl⟩
        have e6 : (q : Int) - (m : Int) = (T : Int) := by omega
        have e7 : max 0 (T : Int) = (T : Int) := by omega
        have hoff : Hid (0 < m → 0 ≤ OFF ∧ OFF + m ≤ nd) := Lib.hid (by omega)
        have ho1 : OFF ≤ 70000 := by omega
        have ho0 : -100000 ≤ OFF := by omega
        have hmn : m ≤ nd := by omega
        have hTp : T ≤ prec := by omega
        have HI : Hid (fmtFrac D dp nd prec = [46] ++ List.replicate lz 48 ++ (List.range m).map (fun i => D (OFF.toNat + i)) ++ List.replicate T 48) := Lib.hid (by
          unfold fmtFrac; rw [if_pos hpr, ← hlz, ← hm, ← e8, hT, hq])
        clear hlz hlz' hq hm hm' hT
        obtain ⟨L, hL⟩ : ∃ L, L = fmtSign neg ++ fmtInt D dp nd := ⟨_, rfl⟩
        have HL : Hid (fmtL neg D dp nd prec = L ++ fmtFrac D dp nd prec) := Lib.hid (by rw [hL]; rfl)
        rw [← hL] at hF2 hl2
        clear hL hl1
        go_wp2_with (at_builtin; refine app1 rfl _ _ rfl hF2 46 rfl rfl (by omega) ?_; intro v' w' hF')
        go_loopg [0, 240] lz (fun g v0 v240 wr => ∃ k : Nat, k + g = lz ∧ v240 = .int .i64 k ∧ FB B sb D nd W (L ++ [46] ++ List.replicate k 48) v0 wr)
        case atStart => exact ⟨0, by omega, rfl, hF'.to (by simp)⟩
        case round =>
          clear hF2 hF'
          obtain ⟨k, hk, rfl, hF2⟩ := hrel
          by_cases hkt : k < lz
          · have HS : Hid (L ++ [46] ++ List.replicate k 48 ++ [48] = L ++ [46] ++ List.replicate (k + 1) 48) := Lib.hid (by rw [List.replicate_succ']; simp)
            have hlen : (L ++ [46] ++ List.replicate k 48).length ≤ 100000 := by simp; omega
            go_wp2_with (at_builtin; refine app1 rfl _ _ rfl hF2 48 rfl rfl hlen ?_; intro v' w' hF')
            go_roundg (gk - 1)
            case measure => omega
            case rel => exact ⟨k + 1, by omega, by go_num, hF'.to HS.out⟩
          · obtain rfl : k = lz := by omega
            go_wp2_with fail
            go_loopg [0, 247] m (fun g v0 v247 wr => ∃ i : Nat, i + g = m ∧ v247 = .int .i64 i ∧ FB B sb D nd W (L ++ [46] ++ List.replicate k 48 ++ (List.range i).map (fun i => D (OFF.toNat + i))) v0 wr)
            case atStart => exact ⟨0, by omega, rfl, hF2.to (by simp)⟩
            case round =>
              clear hF2 hk hkt
              obtain ⟨i, hi, rfl, hF2⟩ := hrel
              by_cases him : i < m
              · obtain ⟨ho2, ho3⟩ := hoff.out (by omega)
                obtain ⟨o, rfl⟩ := Int.eq_ofNat_of_zero_le ho2
                obtain rfl := hao (by omega)
                have hc := hF2.cell (o + i) (by omega)
                have HS : Hid (L ++ [46] ++ List.replicate k 48 ++ (List.range i).map (fun i => D ((o : Int).toNat + i)) ++ [D (o + i)] = L ++ [46] ++ List.replicate k 48 ++ (List.range (i + 1)).map (fun i => D ((o : Int).toNat + i))) := Lib.hid (by rw [List.range_succ]; simp)
                have hlen : (L ++ [46] ++ List.replicate k 48 ++ (List.range i).map (fun i => D ((o : Int).toNat + i))).length ≤ 100000 := by simp; omega
                go_wp2_with (at_builtin; refine app1 rfl _ _ rfl hF2 (D (o + i)) rfl rfl hlen ?_; intro v' w' hF')
                go_roundg (gk - 1)
                case measure => omega
                case rel => exact ⟨i + 1, by omega, by go_num, hF'.to HS.out⟩
              · obtain rfl : i = m := by omega
                go_wp2_with fail
                go_loopg [0, 261] T (fun g v0 v261 wr => ∃ t : Nat, t + g = T ∧ v261 = .int .i64 t ∧ FB B sb D nd W (L ++ [46] ++ List.replicate k 48 ++ (List.range i).map (fun i => D (OFF.toNat + i)) ++ List.replicate t 48) v0 wr)
                case atStart => exact ⟨0, by omega, rfl, hF2.to (by simp)⟩
                case round =>
                  clear hF2 hi him
                  obtain ⟨t, ht, rfl, hF2⟩ := hrel
                  by_cases htT : t < T
                  · have HS : Hid (L ++ [46] ++ List.replicate k 48 ++ (List.range i).map (fun i => D (OFF.toNat + i)) ++ List.replicate t 48 ++ [48] = L ++ [46] ++ List.replicate k 48 ++ (List.range i).map (fun i => D (OFF.toNat + i)) ++ List.replicate (t + 1) 48) := Lib.hid (by rw [List.replicate_succ' (n := t)]; simp)
                    have hlen : (L ++ [46] ++ List.replicate k 48 ++ (List.range i).map (fun i => D (OFF.toNat + i)) ++ List.replicate t 48).length ≤ 100000 := by simp; omega
                    go_wp2_with (at_builtin; refine app1 rfl _ _ rfl hF2 48 rfl rfl hlen ?_; intro v' w' hF')
                    go_roundg (gk - 1)
                    case measure => omega
                    case rel => exact ⟨t + 1, by omega, by go_num, hF'.to HS.out⟩
                  · obtain rfl : t = T := by omega
                    go_wp2_with fail
                    go_ret
                    exact ⟨_, rfl, hF2.to (by rw [HL.out, HI.out]; simp)⟩
      · have HI : Hid (fmtL neg D dp nd prec = fmtSign neg ++ fmtInt D dp nd) := Lib.hid (by unfold fmtL fmtFrac; rw [if_neg hpr]; simp)
        have hpi0 : pi ≤ 0 := by rcases HPI.out with h | h <;> omega
        go_wp2_with fail
        go_ret
        exact ⟨_, rfl, hF2.to (by rw [HI.out])⟩
end Go.Proofs.YtlmilelopajdiaaGreatDoor
