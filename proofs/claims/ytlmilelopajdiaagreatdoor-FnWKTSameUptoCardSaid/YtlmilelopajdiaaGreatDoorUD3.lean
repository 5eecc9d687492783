/-
  Rows of places: writeEMPTY, writeFlatCoords0, writeFlatCoords1.
-/
import Derived.Test.YtlmilelopajdiaaGreatDoorUD0
import Derived.Deep.DeepCutAuto
import Derived.Deep.LoopGhost
namespace Go.Proofs.YtlmilelopajdiaaGreatDoor
open Go.RowKit

def EMPTY : List UInt8 := [69, 77, 80, 84, 89]
/-- The text of the first n numbers of a row of places. -/
noncomputable def rowN (dg : Int) (st : Nat) (xs : List Nat) (n : Nat) : List UInt8 :=
  (List.range n).flatMap fun i => (if i = 0 then [] else if i % st = 0 then [44, 32] else [32]) ++ numS dg (xs.getD i 0)
noncomputable def lineS (dg : Int) (st : Nat) (xs : List Nat) : List UInt8 := [40] ++ rowN dg st xs xs.length ++ [41]
theorem rowN_succ (dg : Int) (st : Nat) (xs : List Nat) (n : Nat) : rowN dg st xs (n + 1) = rowN dg st xs n ++ ((if n = 0 then [] else if n % st = 0 then [44, 32] else [32]) ++ numS dg (xs.getD n 0)) := by
  unfold rowN; rw [List.range_succ, List.flatMap_append]; simp
theorem rowN_mono (dg : Int) (st : Nat) (xs : List Nat) (n m : Nat) (h : n ≤ m) : (rowN dg st xs n).length ≤ (rowN dg st xs m).length := by
  induction m with
  | zero => rw [Nat.le_zero.1 h]; exact Nat.le_refl _
  | succ m ih =>
    rcases Nat.lt_or_ge n (m + 1) with h' | h'
    · have := ih (by omega)
      rw [rowN_succ, List.length_append]; omega
    · rw [Nat.le_antisymm h h']; exact Nat.le_refl _
theorem win_snoc (xs : List Nat) (K j : Nat) (h : K + j < xs.length) : (xs.take (K + (j + 1))).drop K = (xs.take (K + j)).drop K ++ [xs[K + j]] := by
  rw [← Nat.add_assoc, List.take_add_one, List.getElem?_eq_getElem h]
  rw [List.drop_append_of_le_length (by rw [List.length_take]; omega)]
  rfl
theorem rowN_chunk (dg : Int) (st : Nat) (xs : List Nat) (k : Nat) (hst : 1 ≤ st) (hl : k * st + st ≤ xs.length) :
    rowN dg st xs (k * st + st) = rowN dg st xs (k * st) ++ (if k = 0 then [] else [44, 32]) ++ placeS dg ((xs.take (k * st + st)).drop (k * st)) := by
  have H : ∀ j, j ≤ st → rowN dg st xs (k * st + j) = rowN dg st xs (k * st) ++ (if j = 0 then [] else (if k = 0 then [] else [44, 32]) ++ placeS dg ((xs.take (k * st + j)).drop (k * st))) := by
    intro j
    induction j with
    | zero => intro _; simp
    | succ j ih =>
      intro hj
      rw [← Nat.add_assoc, rowN_succ, ih (by omega)]
      have hlt : k * st + j < xs.length := by omega
      have hg : xs.getD (k * st + j) 0 = xs[k * st + j] := by rw [List.getD, List.getElem?_eq_getElem hlt]; rfl
      rw [Nat.add_assoc, win_snoc xs (k * st) j hlt, placeS_snoc, hg]
      by_cases hj0 : j = 0
      · subst hj0
        have e1 : (xs.take (k * st)).drop (k * st) = [] := by rw [List.drop_eq_nil_iff, List.length_take]; omega
        simp only [Nat.add_zero, if_true, e1, placeS, List.nil_append, List.append_nil, show ¬ (0 + 1 = 0) by omega, if_false, Nat.mul_mod_left]
        by_cases hk : k = 0
        · subst hk; simp
        · have : ¬ k * st = 0 := by intro h; rcases Nat.mul_eq_zero.1 h with h | h <;> omega
          simp [hk, this]
      · have e1 : ¬ ((xs.take (k * st + j)).drop (k * st) = []) := by rw [List.drop_eq_nil_iff, List.length_take]; omega
        have e2 : ¬ (k * st + j = 0) := by omega
        have e3 : ¬ ((k * st + j) % st = 0) := by rw [Nat.mul_comm, Nat.mul_add_mod, Nat.mod_eq_of_lt (by omega)]; exact hj0
        simp only [hj0, e1, e2, e3, if_false, show ¬ (j + 1 = 0) by omega]
        simp
  have := H st (Nat.le_refl _)
  rw [if_neg (by omega)] at this
  rw [this]; simp

/-- A window of a row of numbers. -/
theorem fslice {w : World} {B : Nat} {v : Value} {xs : List Nat} (h : FRow w B v xs) (lo hi : Nat) (h1 : lo < hi) (h2 : hi ≤ xs.length) :
    ∃ v', (∀ w', (Instr.slice 22 v (some (.int .i64 (lo : Int))) (some (.int .i64 (hi : Int))) none).run Tryz.prog w' = .ok v' w') ∧ FRow w B v' ((xs.take hi).drop lo) := by
  obtain ⟨hx, hl, ⟨rfl, rfl⟩ | ⟨b, o, cap, rfl, h3, h4, h5, h6⟩⟩ := h
  · simp at h2; omega
  · have hlen : ((xs.take hi).drop lo).length = hi - lo := by rw [List.length_drop, List.length_take]; omega
    refine ⟨.slice (some ⟨b, o + lo, none⟩) (hi - lo) (cap - lo), fun w' => ?_, fun x hx' => hx x (List.mem_of_mem_take (List.mem_of_mem_drop hx')), by rw [hlen]; omega, Or.inr ⟨b, o + lo, cap - lo, by rw [hlen], h3, by rw [hlen]; omega, by omega, fun j hj => ?_⟩⟩
    · have ht' : Tryz.prog.underlying 22 = some (.slice (Tryz.prog.elem 22)) := by kernel_rfl
      rw [run_slice_lh w' 22 _ _ _ ht' .i64 .i64 _ _ (by omega) (by omega) (by omega), show Tryz.prog.elem 22 = 32 by kernel_rfl, show (Go.sizeOf 32).run Tryz.prog w' = .ok 1 w' by kernel_rfl]
      have hne : ¬ cap = lo := by omega
      by_cases h0 : lo = 0
      · subst h0
        simp [Result.andThen, sliced, Addr.add, hne]
      · simp [Result.andThen, sliced, Addr.add, hne, h0]
    · rw [hlen] at hj
      have := h6 (lo + j) (by omega)
      rw [Nat.add_assoc, this]
      simp
theorem fslice0 {w : World} {B : Nat} {v : Value} {xs : List Nat} (h : FRow w B v xs) (h1 : 0 < xs.length) :
    ∃ v', (∀ w', (Instr.slice 22 v none (some (.int .i64 (xs.length : Int))) none).run Tryz.prog w' = .ok v' w') ∧ FRow w B v' xs := by
  obtain ⟨hx, hl, ⟨rfl, rfl⟩ | ⟨b, o, cap, rfl, h3, h4, h5, h6⟩⟩ := h
  · simp at h1
  · refine ⟨.slice (some ⟨b, o, none⟩) xs.length cap, fun w' => ?_, hx, hl, Or.inr ⟨b, o, cap, rfl, h3, h4, h5, h6⟩⟩
    have ht' : Tryz.prog.underlying 22 = some (.slice (Tryz.prog.elem 22)) := by kernel_rfl
    rw [run_slice_h w' 22 _ _ _ ht' .i64 _ (by omega) (by omega), show Tryz.prog.elem 22 = 32 by kernel_rfl, show (Go.sizeOf 32).run Tryz.prog w' = .ok 1 w' by kernel_rfl]
    have hne : ¬ cap = 0 := by omega
    simp [Result.andThen, sliced, Addr.add, hne]

/-- What every writer is called with. -/
structure WPre (B b eb : Nat) (dg : Int) (w : World) : Prop where
  tabs : Tabs B w
  base : B ≤ w.heap.size
  enc : w.cell? ⟨eb, 0, none⟩ = some (.int .i64 dg)
  lt : eb < B
  d0 : -1 ≤ dg
  d1 : dg ≤ 20
theorem WPre.below {B b eb : Nat} {dg : Int} {w w' : World} (h : WPre B b eb dg w) (hb : Below B w w') : WPre B b eb dg w' :=
  ⟨h.tabs.below hb, by have := h.base; have := hb.size; omega, by rw [hb.cell h.lt]; exact h.enc, h.lt, h.d0, h.d1⟩

set_option maxRecDepth 100000 in
set_option maxHeartbeats 2000000 in
theorem writeEMPTY (B b eb : Nat) (t : List UInt8) (w : World) (h : BB w B b t) (hBw : B ≤ w.heap.size) (hlen : t.length ≤ 100000000000000) :
    Calls Tryz.prog 64 #[.pointer (some ⟨eb, 0, none⟩), .pointer (some ⟨b, 0, none⟩)] w fun e w' => e = .returned .nilIface ∧ BB w' B b (t ++ EMPTY) ∧ Below B w w' := by
  have h5 : t.length + EMPTY.length ≤ 140737488355328 := by simp [EMPTY]; omega
  go_enter Tryz.func64, Tryz.ntmps64
  go_wp2_with fail
  refine (writeString B b t EMPTY w h h5 hBw).mono ?_
  rintro e w2 ⟨rfl, hb2, hbl2⟩
  go_wp2_with fail
  go_ret
  exact ⟨rfl, hb2, hbl2⟩

set_option maxRecDepth 100000 in
set_option maxHeartbeats 2000000 in
theorem writeFlat0 (B b eb : Nat) (dg : Int) (t : List UInt8) (v : Value) (xs : List Nat) (w : World) (h : BB w B b t) (hp : WPre B b eb dg w) (hv : FRow w B v xs) (h0 : 0 < xs.length) (hlen : t.length + (placeS dg xs).length + 10 ≤ 70000000000000) :
    Calls Tryz.prog 65 #[.pointer (some ⟨eb, 0, none⟩), .pointer (some ⟨b, 0, none⟩), v, .int .i64 (xs.length : Nat)] w fun e w' => e = .returned .nilIface ∧ BB w' B b (t ++ ([40] ++ placeS dg xs ++ [41])) ∧ Below B w w' := by
  obtain ⟨v', hsl, hv'⟩ := fslice0 hv h0
  have hd0 := hp.d0
  have hd1 := hp.d1
  go_enter Tryz.func65, Tryz.ntmps65
  go_wp2_with fail
  refine (writeRune B b t 40 40 rfl (by decide) _ h (by omega) hp.base).mono ?_
  rintro e w2 ⟨y, rfl, hb2, hbl2⟩
  have hp2 := hp.below hbl2
  go_wp2_with fail
  refine (writeCoord B b eb dg (t ++ [40]) v' xs w2 hb2 hp2.tabs hp2.base hp2.enc hp2.lt hd0 hd1 (hv'.below hbl2) (by simp; omega)).mono ?_
  rintro e w3 ⟨rfl, hb3, hbl3⟩
  have hp3 := hp2.below hbl3
  go_wp2_with fail
  refine (writeRune B b _ 41 41 rfl (by decide) _ hb3 (by simp; omega) hp3.base).mono ?_
  rintro e w4 ⟨y2, rfl, hb4, hbl4⟩
  go_wp2_with fail
  go_ret
  exact ⟨rfl, by simpa using hb4, (hbl2.trans hbl3).trans hbl4⟩
end Go.Proofs.YtlmilelopajdiaaGreatDoor

/-
  writeFlatCoords1.
-/
namespace Go.Proofs.YtlmilelopajdiaaGreatDoor
open Go.RowKit

/-- A row of numbers that is not empty: where it lies. -/
theorem FRow.open {w : World} {B : Nat} {v : Value} {xs : List Nat} (h : FRow w B v xs) (h0 : 0 < xs.length) : ∃ b o cap, v = .slice (some ⟨b, o, none⟩) xs.length cap ∧ xs.length ≤ cap ∧ cap ≤ 9223372036854775807 ∧
    ∀ lo n : Nat, 0 < n → lo + n ≤ xs.length → FRow w B (.slice (some ⟨b, o + lo, none⟩) n (cap - lo)) ((xs.take (lo + n)).drop lo) := by
  obtain ⟨hx, hl, ⟨rfl, rfl⟩ | ⟨b, o, cap, rfl, h3, h4, h5, h6⟩⟩ := h
  · simp at h0
  · refine ⟨b, o, cap, rfl, h4, h5, fun lo n hn h2 => ?_⟩
    have hlen : ((xs.take (lo + n)).drop lo).length = n := by rw [List.length_drop, List.length_take]; omega
    refine ⟨fun x hx' => hx x (List.mem_of_mem_take (List.mem_of_mem_drop hx')), by rw [hlen]; omega, Or.inr ⟨b, o + lo, cap - lo, by rw [hlen], h3, by rw [hlen]; omega, by omega, fun j hj => ?_⟩⟩
    rw [hlen] at hj
    have := h6 (lo + j) (by omega)
    rw [Nat.add_assoc, this]
    simp

set_option maxRecDepth 100000 in
set_option maxHeartbeats 4000000 in
theorem writeFlat1 (B b eb : Nat) (dg : Int) (st n : Nat) (t : List UInt8) (v : Value) (xs : List Nat) (w : World) (h : BB w B b t) (hp : WPre B b eb dg w) (hv : FRow w B v xs) (hst : 1 ≤ st) (hst2 : st ≤ 1000) (hxs : xs.length = n * st) (h0 : 0 < xs.length)
    (hlen : t.length + (lineS dg st xs).length + 10 ≤ 70000000000000) :
    Calls Tryz.prog 67 #[.pointer (some ⟨eb, 0, none⟩), .pointer (some ⟨b, 0, none⟩), v, .int .i64 (st : Nat)] w fun e w' => e = .returned .nilIface ∧ BB w' B b (t ++ lineS dg st xs) ∧ Below B w w' := by
  have hd0 := hp.d0
  have hd1 := hp.d1
  have hl : (lineS dg st xs).length = (rowN dg st xs xs.length).length + 2 := by unfold lineS; simp
  obtain ⟨fb, o, cap, rfl, hcap, hcap2, hwin⟩ := hv.open h0
  have HV := Lib.hid hwin
  have hxl := hv.2.1
  obtain ⟨N, hN⟩ : ∃ N, N = xs.length := ⟨_, rfl⟩
  have HX := Lib.hid hxs
  have HN := Lib.hid hN
  rw [← hN] at hl hxl hcap ⊢
  clear hN hxs hv hwin h0
  go_enter Tryz.func67, Tryz.ntmps67
  go_wp2_with fail
  refine (writeRune B b t 40 40 rfl (by decide) _ h (by omega) hp.base).mono ?_
  rintro e w2 ⟨y, rfl, hb2, hbl2⟩
  go_wp2_with fail
  go_loopg [11] n (fun g v11 wr => ∃ k K : Nat, k + g = n ∧ Hid (K = k * st) ∧ v11 = .int .i64 K ∧ K ≤ N ∧ BB wr B b (t ++ [40] ++ rowN dg st xs K) ∧ Below B w wr)
  case atStart => exact ⟨0, 0, by omega, Lib.hid (by simp), rfl, by omega, by simpa [rowN] using hb2, hbl2⟩
  case round =>
    clear hb2 hbl2
    obtain ⟨k, K, hk, HK, rfl, hKN, hb, hbl⟩ := hrel
    have hpr := hp.below hbl
    by_cases hkn : k < n
    · have hK2 : K + st ≤ N := by
        rw [HK.out, HN.out, HX.out]
        have : (k + 1) * st ≤ n * st := Nat.mul_le_mul_right _ (by omega)
        rw [Nat.succ_mul] at this; exact this
      have hK3 : (K : Int) < N := by omega
      have hv' := HV.out K st hst (by rw [← HN.out]; exact hK2)
      have hpl : ((xs.take (K + st)).drop K).length = st := by rw [List.length_drop, List.length_take, ← HN.out]; omega
      obtain ⟨sep, hsep⟩ : ∃ sep : List UInt8, sep = if k = 0 then [] else [44, 32] := ⟨_, rfl⟩
      obtain ⟨T, hT⟩ : ∃ T, T = t ++ [40] ++ rowN dg st xs K := ⟨_, rfl⟩
      have HQ : Hid (t ++ [40] ++ rowN dg st xs (K + st) = T ++ sep ++ placeS dg ((xs.take (K + st)).drop K)) := Lib.hid (by
        have := rowN_chunk dg st xs k hst (by rw [← HK.out, ← HN.out]; exact hK2)
        rw [← HK.out] at this
        rw [this, hT, hsep]; simp)
      have HM : T.length + sep.length + (placeS dg ((xs.take (K + st)).drop K)).length + 1 ≤ 70000000000000 := by
        have h5 := congrArg List.length HQ.out
        have h6 := rowN_mono dg st xs (K + st) N hK2
        simp only [List.length_append, List.length_cons, List.length_nil] at h5; omega
      rw [← hT] at hb
      have hKz : K = 0 ↔ k = 0 := by rw [HK.out, Nat.mul_eq_zero]; omega
      have HSP := Lib.hid hsep
      have HKZ := Lib.hid hKz
      have HVW := Lib.hid hv'
      clear hT hsep hl hKz hv'
      generalize (xs.take (K + st)).drop K = ps at *
      go_upto_if 35 with (fail)
      go_cut [] (fun wx => BB wx B b (T ++ sep) ∧ Below B w wx)
      case first =>
        by_cases hK0 : K = 0
        · subst hK0
          have HE : Hid (T ++ sep = T) := Lib.hid (by rw [HSP.out, if_pos (HKZ.out.1 rfl)]; simp)
          go_wp2_with fail
          go_meet
          exact ⟨by rw [HE.out]; exact hb, hbl⟩
        · have HE : Hid (sep = [44, 32]) := Lib.hid (by rw [HSP.out, if_neg (fun e => hK0 (HKZ.out.2 e))])
          have hki : ((K : Int) != 0) = true := by simp; omega
          have h2 : T.length + [(44 : UInt8), 32].length ≤ 140737488355328 := by simp; omega
          clear hK0
          go_wp2_with fail
          refine (writeString B b T [44, 32] _ hb h2 hpr.base).mono ?_
          rintro e w3 ⟨rfl, hb3, hbl3⟩
          go_wp2_with fail
          go_meet
          exact ⟨by rw [HE.out]; exact hb3, hbl.trans hbl3⟩
      case rest =>
        obtain ⟨hb3, hbl3⟩ := hcut
        generalize wc = w3 at *
        have hp3 := hp.below hbl3
        clear hb hbl hpr
        go_wp2_with fail
        refine (writeCoord B b eb dg (T ++ sep) _ ps w3 hb3 hp3.tabs hp3.base hp3.enc hp3.lt hd0 hd1 (HVW.out.below hbl3) (by rw [List.length_append]; omega)).mono ?_
        rintro e w4 ⟨rfl, hb4, hbl4⟩
        have HK' : Hid (K + st = (k + 1) * st) := Lib.hid (by rw [HK.out, Nat.succ_mul])
        go_wp2_with fail
        go_roundg (gk - 1)
        case measure => omega
        case rel => exact ⟨k + 1, K + st, by omega, HK', by go_num, hK2, by rw [HQ.out]; exact hb4, hbl3.trans hbl4⟩
    · have hKe : K = N := by rw [HK.out, HN.out, HX.out, show k = n by omega]
      subst hKe
      have HE : Hid (t ++ [40] ++ rowN dg st xs K ++ [41] = t ++ lineS dg st xs) := Lib.hid (by unfold lineS; rw [← HN.out]; simp)
      have hl4 : (t ++ [40] ++ rowN dg st xs K).length + 4 ≤ 140737488355328 := by simp only [List.length_append, List.length_cons, List.length_nil]; omega
      go_wp2_with fail
      refine (writeRune B b _ 41 41 rfl (by decide) _ hb hl4 hpr.base).mono ?_
      rintro e w4 ⟨y2, rfl, hb4, hbl4⟩
      go_wp2_with fail
      go_ret
      exact ⟨rfl, by rw [← HE.out]; exact hb4, hbl.trans hbl4⟩
end Go.Proofs.YtlmilelopajdiaaGreatDoor

/-
  Texts of parts, joined; writeFlatCoords1Ends.
-/
namespace Go.Proofs.YtlmilelopajdiaaGreatDoor
open Go.RowKit

/-- The first n texts, with a comma and a blank between them. -/
def joinN (L : Nat → List UInt8) (n : Nat) : List UInt8 := (List.range n).flatMap fun i => (if i = 0 then [] else [44, 32]) ++ L i
theorem joinN_succ (L : Nat → List UInt8) (n : Nat) : joinN L (n + 1) = joinN L n ++ (if n = 0 then [] else [44, 32]) ++ L n := by
  unfold joinN; rw [List.range_succ, List.flatMap_append]; simp
theorem joinN_mono (L : Nat → List UInt8) (n m : Nat) (h : n ≤ m) : (joinN L n).length ≤ (joinN L m).length := by
  induction m with
  | zero => rw [Nat.le_zero.1 h]; exact Nat.le_refl _
  | succ m ih =>
    rcases Nat.lt_or_ge n (m + 1) with h' | h'
    · have := ih (by omega)
      rw [joinN_succ, List.length_append, List.length_append]; omega
    · rw [Nat.le_antisymm h h']; exact Nat.le_refl _
/-- A slice of whole numbers, below block B. -/
def IRow (w : World) (B : Nat) (v : Value) (es : List Nat) : Prop :=
  es.length ≤ 1000000000 ∧ (∀ e ∈ es, e ≤ 1000000000) ∧ ((es = [] ∧ v = .slice none 0 0) ∨ ∃ b o cap, v = .slice (some ⟨b, o, none⟩) es.length cap ∧ b < B ∧ es.length ≤ cap ∧ cap ≤ 9223372036854775807 ∧
    ∀ (j : Nat) (hj : j < es.length), w.cell? ⟨b, o + j, none⟩ = some (.int .i64 (es[j] : Nat)))
theorem IRow.below {w w' : World} {B : Nat} {v : Value} {xs : List Nat} (h : IRow w B v xs) (hb : Below B w w') : IRow w' B v xs := by
  obtain ⟨h1, h0, h2 | ⟨b, o, cap, h2, h3, h4, h5, h6⟩⟩ := h
  · exact ⟨h1, h0, Or.inl h2⟩
  · exact ⟨h1, h0, Or.inr ⟨b, o, cap, h2, h3, h4, h5, fun j hj => by rw [hb.cell h3]; exact h6 j hj⟩⟩
/-- Where part k begins. -/
def stAt (s : Nat) (es : List Nat) (k : Nat) : Nat := if k = 0 then s else es.getD (k - 1) 0
/-- The text of the numbers from s to e. -/
def segT (f : List Nat → List UInt8) (xs : List Nat) (s e : Nat) : List UInt8 := if e ≤ s then EMPTY else f ((xs.take e).drop s)
def partT (f : List Nat → List UInt8) (xs : List Nat) (s : Nat) (es : List Nat) (k : Nat) : List UInt8 := segT f xs (stAt s es k) (es.getD k 0)
def partsT (f : List Nat → List UInt8) (xs : List Nat) (s : Nat) (es : List Nat) : List UInt8 := [40] ++ joinN (partT f xs s es) es.length ++ [41]

set_option maxRecDepth 100000 in
set_option maxHeartbeats 4000000 in
theorem writeFlat1Ends (B b eb : Nat) (dg : Int) (s : Nat) (t : List UInt8) (v ve : Value) (xs es : List Nat) (w : World) (h : BB w B b t) (hp : WPre B b eb dg w) (hv : FRow w B v xs) (hve : IRow w B ve es) (h0 : 0 < es.length) (hs : s ≤ 1000000000)
    (hin : ∀ k, k < es.length → es.getD k 0 ≤ xs.length)
    (hlen : t.length + (partsT (placeS dg) xs s es).length + 10 ≤ 70000000000000) :
    Calls Tryz.prog 71 #[.pointer (some ⟨eb, 0, none⟩), .pointer (some ⟨b, 0, none⟩), v, .int .i64 (s : Nat), ve] w fun e w' => e = .returned .nilIface ∧ BB w' B b (t ++ partsT (placeS dg) xs s es) ∧ Below B w w' := by
  have hd0 := hp.d0
  have hd1 := hp.d1
  obtain ⟨N, hN⟩ : ∃ N, N = es.length := ⟨_, rfl⟩
  have hl : (partsT (placeS dg) xs s es).length = (joinN (partT (placeS dg) xs s es) N).length + 2 := by unfold partsT; rw [hN]; simp
  obtain ⟨h1, h2, ⟨e1, _⟩ | ⟨ib, io, icap, rfl, hib, hic, hic2, hcell⟩⟩ := hve
  · rw [e1] at h0; simp at h0
  have HC : Hid (∀ k (e : Nat), k < N → e = es.getD k 0 → e ≤ 1000000000 ∧ ∀ w', Below B w w' → w'.cell? ⟨ib, io + k, none⟩ = some (.int .i64 (e : Nat))) := Lib.hid (by
    intro k e hk he
    rw [hN] at hk
    have hg : es.getD k 0 = es[k] := by rw [List.getD, List.getElem?_eq_getElem hk]; rfl
    rw [hg] at he
    subst he
    exact ⟨h2 _ (List.getElem_mem hk), fun w' hb => by rw [hb.cell hib]; exact hcell k hk⟩)
  have HN := Lib.hid hN
  have HIN := Lib.hid hin
  have HV := Lib.hid hv
  rw [← hN] at hic h1 ⊢
  clear hN hin h2 hcell h0 hv
  go_enter Tryz.func71, Tryz.ntmps71
  go_wp2_with fail
  refine (writeRune B b t 40 40 rfl (by decide) _ h (by omega) hp.base).mono ?_
  rintro e w2 ⟨y, rfl, hb2, hbl2⟩
  go_wp2_with fail
  go_loopg [3, 31] N (fun g v3 v31 wr => ∃ k c : Nat, k + g = N ∧ Hid (c = stAt s es k) ∧ c ≤ 1000000000 ∧ v31 = .int .i64 k ∧ v3 = .int .i64 c ∧ BB wr B b (t ++ [40] ++ joinN (partT (placeS dg) xs s es) k) ∧ Below B w wr)
  case atStart => exact ⟨0, s, by omega, Lib.hid (by unfold stAt; simp), hs, rfl, rfl, by simpa [joinN] using hb2, hbl2⟩
  case round =>
    clear hb2 hbl2
    obtain ⟨k, c, hk, Hc, hc1, rfl, rfl, hb, hbl⟩ := hrel
    have hpr := hp.below hbl
    by_cases hkn : k < N
    · obtain ⟨e, he⟩ : ∃ e, e = es.getD k 0 := ⟨_, rfl⟩
      obtain ⟨he1, hce⟩ := HC.out k e hkn he
      have hcl := hce wr hbl
      have hexs : e ≤ xs.length := by rw [he]; exact HIN.out k (by rw [← HN.out]; exact hkn)
      obtain ⟨sep, hsep⟩ : ∃ sep : List UInt8, sep = if k = 0 then [] else [44, 32] := ⟨_, rfl⟩
      obtain ⟨T, hT⟩ : ∃ T, T = t ++ [40] ++ joinN (partT (placeS dg) xs s es) k := ⟨_, rfl⟩
      have HP : Hid (partT (placeS dg) xs s es k = segT (placeS dg) xs c e) := Lib.hid (by unfold partT; rw [← Hc.out, ← he])
      have HQ : Hid (t ++ [40] ++ joinN (partT (placeS dg) xs s es) (k + 1) = T ++ sep ++ segT (placeS dg) xs c e) := Lib.hid (by
        rw [joinN_succ, hT, hsep, HP.out]; simp)
      have HM : T.length + sep.length + (segT (placeS dg) xs c e).length + 1 ≤ 70000000000000 := by
        have h5 := congrArg List.length HQ.out
        have h6 := joinN_mono (partT (placeS dg) xs s es) (k + 1) N hkn
        simp only [List.length_append, List.length_cons, List.length_nil] at h5; omega
      have HS : Hid (e = stAt s es (k + 1)) := Lib.hid (by unfold stAt; rw [if_neg (by omega), he]; rfl)
      rw [← hT] at hb
      have HSP := Lib.hid hsep
      clear hT hsep hl he hce
      go_upto_if 37 with (fail)
      go_cut [] (fun wx => BB wx B b (T ++ sep) ∧ Below B w wx)
      case first =>
        by_cases hk0 : k = 0
        · subst hk0
          have HE : Hid (T ++ sep = T) := Lib.hid (by rw [HSP.out, if_pos rfl]; simp)
          go_wp2_with fail
          go_meet
          exact ⟨by rw [HE.out]; exact hb, hbl⟩
        · have HE : Hid (sep = [44, 32]) := Lib.hid (by rw [HSP.out, if_neg hk0])
          have hki : ((k : Int) != 0) = true := by simp; omega
          have h2 : T.length + [(44 : UInt8), 32].length ≤ 140737488355328 := by simp; omega
          clear hk0
          go_wp2_with fail
          refine (writeString B b T [44, 32] _ hb h2 hpr.base).mono ?_
          rintro e w3 ⟨rfl, hb3, hbl3⟩
          go_wp2_with fail
          go_meet
          exact ⟨by rw [HE.out]; exact hb3, hbl.trans hbl3⟩
      case rest =>
        obtain ⟨hb3, hbl3⟩ := hcut
        generalize wc = w3 at *
        have hp3 := hp.below hbl3
        clear hb hbl hpr hcl
        by_cases hec : e ≤ c
        · have HE : Hid (segT (placeS dg) xs c e = EMPTY) := Lib.hid (by unfold segT; rw [if_pos hec])
          rw [HE.out] at HM
          have hl3 : (T ++ sep).length ≤ 100000000000000 := by rw [List.length_append]; omega
          go_wp2_with fail
          refine (writeEMPTY B b eb (T ++ sep) w3 hb3 hp3.base hl3).mono ?_
          rintro e w4 ⟨rfl, hb4, hbl4⟩
          go_wp2_with fail
          go_roundg (gk - 1)
          case measure => omega
          case rel => exact ⟨k + 1, _, by omega, HS, by omega, by go_num, rfl, by rw [HQ.out, HE.out]; exact hb4, hbl3.trans hbl4⟩
        · obtain ⟨fb, o, cap, rfl, hcap, hcap2, hwin⟩ := (HV.out.below hbl3).open (by omega)
          obtain ⟨n, rfl⟩ : ∃ n, e = c + n := ⟨e - c, by omega⟩
          have HE : Hid (segT (placeS dg) xs c (c + n) = placeS dg ((xs.take (c + n)).drop c)) := Lib.hid (by unfold segT; rw [if_neg hec])
          have hvw := hwin c n (by omega) hexs
          rw [HE.out] at HM
          have HVW := Lib.hid hvw
          clear hwin hvw
          generalize (xs.take (c + n)).drop c = ps at *
          have hl3 : (T ++ sep).length + (placeS dg ps).length ≤ 70000000000000 := by rw [List.length_append]; omega
          go_wp2_with fail
          refine (writeCoord B b eb dg (T ++ sep) _ ps w3 hb3 hp3.tabs hp3.base hp3.enc hp3.lt hd0 hd1 HVW.out hl3).mono ?_
          rintro e w4 ⟨rfl, hb4, hbl4⟩
          go_wp2_with fail
          go_roundg (gk - 1)
          case measure => omega
          case rel => exact ⟨k + 1, _, by omega, HS, by omega, by go_num, by go_num, by rw [HQ.out, HE.out]; exact hb4, hbl3.trans hbl4⟩
    · obtain rfl : k = N := by omega
      have HE : Hid (t ++ [40] ++ joinN (partT (placeS dg) xs s es) k ++ [41] = t ++ partsT (placeS dg) xs s es) := Lib.hid (by unfold partsT; rw [← HN.out]; simp)
      have hl4 : (t ++ [40] ++ joinN (partT (placeS dg) xs s es) k).length + 4 ≤ 140737488355328 := by simp only [List.length_append, List.length_cons, List.length_nil]; omega
      go_wp2_with fail
      refine (writeRune B b _ 41 41 rfl (by decide) _ hb hl4 hpr.base).mono ?_
      rintro e w4 ⟨y2, rfl, hb4, hbl4⟩
      go_wp2_with fail
      go_ret
      exact ⟨rfl, by rw [← HE.out]; exact hb4, hbl.trans hbl4⟩
end Go.Proofs.YtlmilelopajdiaaGreatDoor

/-
  writeFlatCoords2.
-/
namespace Go.Proofs.YtlmilelopajdiaaGreatDoor
open Go.RowKit

set_option maxRecDepth 100000 in
set_option maxHeartbeats 4000000 in
theorem writeFlat2 (B b eb : Nat) (dg : Int) (st s : Nat) (hst : 1 ≤ st) (hst2 : st ≤ 1000) (t : List UInt8) (v ve : Value) (xs es : List Nat) (w : World) (h : BB w B b t) (hp : WPre B b eb dg w) (hv : FRow w B v xs) (hve : IRow w B ve es) (h0 : 0 < es.length) (hs : s ≤ 1000000000)
    (hin : ∀ k, k < es.length → es.getD k 0 ≤ xs.length)
    (hdv : ∀ k, k < es.length → (es.getD k 0 - stAt s es k) % st = 0)
    (hlen : t.length + (partsT (lineS dg st) xs s es).length + 20 ≤ 70000000000000) :
    Calls Tryz.prog 68 #[.pointer (some ⟨eb, 0, none⟩), .pointer (some ⟨b, 0, none⟩), v, .int .i64 (s : Nat), ve, .int .i64 (st : Nat)] w fun e w' => e = .returned .nilIface ∧ BB w' B b (t ++ partsT (lineS dg st) xs s es) ∧ Below B w w' := by
  have hd0 := hp.d0
  have hd1 := hp.d1
  obtain ⟨N, hN⟩ : ∃ N, N = es.length := ⟨_, rfl⟩
  have hl : (partsT (lineS dg st) xs s es).length = (joinN (partT (lineS dg st) xs s es) N).length + 2 := by unfold partsT; rw [hN]; simp
  obtain ⟨h1, h2, ⟨e1, _⟩ | ⟨ib, io, icap, rfl, hib, hic, hic2, hcell⟩⟩ := hve
  · rw [e1] at h0; simp at h0
  have HC : Hid (∀ k (e : Nat), k < N → e = es.getD k 0 → e ≤ 1000000000 ∧ ∀ w', Below B w w' → w'.cell? ⟨ib, io + k, none⟩ = some (.int .i64 (e : Nat))) := Lib.hid (by
    intro k e hk he
    rw [hN] at hk
    have hg : es.getD k 0 = es[k] := by rw [List.getD, List.getElem?_eq_getElem hk]; rfl
    rw [hg] at he
    subst he
    exact ⟨h2 _ (List.getElem_mem hk), fun w' hb => by rw [hb.cell hib]; exact hcell k hk⟩)
  have HN := Lib.hid hN
  have HIN := Lib.hid hin
  have HDV := Lib.hid hdv
  have HV := Lib.hid hv
  rw [← hN] at hic h1 ⊢
  clear hN hin hdv h2 hcell h0 hv
  go_enter Tryz.func68, Tryz.ntmps68
  go_wp2_with fail
  refine (writeRune B b t 40 40 rfl (by decide) _ h (by omega) hp.base).mono ?_
  rintro e w2 ⟨y, rfl, hb2, hbl2⟩
  go_wp2_with fail
  go_loopg [3, 33] N (fun g v3 v31 wr => ∃ k c : Nat, k + g = N ∧ Hid (c = stAt s es k) ∧ c ≤ 1000000000 ∧ v31 = .int .i64 k ∧ v3 = .int .i64 c ∧ BB wr B b (t ++ [40] ++ joinN (partT (lineS dg st) xs s es) k) ∧ Below B w wr)
  case atStart => exact ⟨0, s, by omega, Lib.hid (by unfold stAt; simp), hs, rfl, rfl, by simpa [joinN] using hb2, hbl2⟩
  case round =>
    clear hb2 hbl2
    obtain ⟨k, c, hk, Hc, hc1, rfl, rfl, hb, hbl⟩ := hrel
    have hpr := hp.below hbl
    by_cases hkn : k < N
    · obtain ⟨e, he⟩ : ∃ e, e = es.getD k 0 := ⟨_, rfl⟩
      obtain ⟨he1, hce⟩ := HC.out k e hkn he
      have hcl := hce wr hbl
      have hexs : e ≤ xs.length := by rw [he]; exact HIN.out k (by rw [← HN.out]; exact hkn)
      obtain ⟨sep, hsep⟩ : ∃ sep : List UInt8, sep = if k = 0 then [] else [44, 32] := ⟨_, rfl⟩
      obtain ⟨T, hT⟩ : ∃ T, T = t ++ [40] ++ joinN (partT (lineS dg st) xs s es) k := ⟨_, rfl⟩
      have HD : Hid ((e - c) % st = 0) := Lib.hid (by rw [he, Hc.out]; exact HDV.out k (by rw [← HN.out]; exact hkn))
      have HP : Hid (partT (lineS dg st) xs s es k = segT (lineS dg st) xs c e) := Lib.hid (by unfold partT; rw [← Hc.out, ← he])
      have HQ : Hid (t ++ [40] ++ joinN (partT (lineS dg st) xs s es) (k + 1) = T ++ sep ++ segT (lineS dg st) xs c e) := Lib.hid (by
        rw [joinN_succ, hT, hsep, HP.out]; simp)
      have HM : T.length + sep.length + (segT (lineS dg st) xs c e).length + 10 ≤ 70000000000000 := by
        have h5 := congrArg List.length HQ.out
        have h6 := joinN_mono (partT (lineS dg st) xs s es) (k + 1) N hkn
        simp only [List.length_append, List.length_cons, List.length_nil] at h5; omega
      have HS : Hid (e = stAt s es (k + 1)) := Lib.hid (by unfold stAt; rw [if_neg (by omega), he]; rfl)
      rw [← hT] at hb
      have HSP := Lib.hid hsep
      clear hT hsep hl he hce
      go_upto_if 39 with (fail)
      go_cut [] (fun wx => BB wx B b (T ++ sep) ∧ Below B w wx)
      case first =>
        by_cases hk0 : k = 0
        · subst hk0
          have HE : Hid (T ++ sep = T) := Lib.hid (by rw [HSP.out, if_pos rfl]; simp)
          go_wp2_with fail
          go_meet
          exact ⟨by rw [HE.out]; exact hb, hbl⟩
        · have HE : Hid (sep = [44, 32]) := Lib.hid (by rw [HSP.out, if_neg hk0])
          have hki : ((k : Int) != 0) = true := by simp; omega
          have h2 : T.length + [(44 : UInt8), 32].length ≤ 140737488355328 := by simp; omega
          clear hk0
          go_wp2_with fail
          refine (writeString B b T [44, 32] _ hb h2 hpr.base).mono ?_
          rintro e w3 ⟨rfl, hb3, hbl3⟩
          go_wp2_with fail
          go_meet
          exact ⟨by rw [HE.out]; exact hb3, hbl.trans hbl3⟩
      case rest =>
        obtain ⟨hb3, hbl3⟩ := hcut
        generalize wc = w3 at *
        have hp3 := hp.below hbl3
        clear hb hbl hpr hcl
        by_cases hec : e ≤ c
        · have HE : Hid (segT (lineS dg st) xs c e = EMPTY) := Lib.hid (by unfold segT; rw [if_pos hec])
          rw [HE.out] at HM
          have hl3 : (T ++ sep).length ≤ 100000000000000 := by rw [List.length_append]; omega
          go_wp2_with fail
          refine (writeEMPTY B b eb (T ++ sep) w3 hb3 hp3.base hl3).mono ?_
          rintro e w4 ⟨rfl, hb4, hbl4⟩
          go_wp2_with fail
          go_roundg (gk - 1)
          case measure => omega
          case rel => exact ⟨k + 1, _, by omega, HS, by omega, by go_num, rfl, by rw [HQ.out, HE.out]; exact hb4, hbl3.trans hbl4⟩
        · obtain ⟨fb, o, cap, rfl, hcap, hcap2, hwin⟩ := (HV.out.below hbl3).open (by omega)
          obtain ⟨n, rfl⟩ : ∃ n, e = c + n := ⟨e - c, by omega⟩
          have HE : Hid (segT (lineS dg st) xs c (c + n) = lineS dg st ((xs.take (c + n)).drop c)) := Lib.hid (by unfold segT; rw [if_neg hec])
          have hvw := hwin c n (by omega) hexs
          rw [HE.out] at HM
          have HVW := Lib.hid hvw
          have hwl : ((xs.take (c + n)).drop c).length = n := by rw [List.length_drop, List.length_take]; omega
          have HPL : Hid (((xs.take (c + n)).drop c).length = n / st * st) := Lib.hid (by
            rw [hwl]
            have := HD.out
            rw [show c + n - c = n by omega] at this
            have h9 := Nat.div_add_mod n st
            rw [this, Nat.mul_comm] at h9; omega)
          have HP0 : Hid (0 < ((xs.take (c + n)).drop c).length) := Lib.hid (by rw [hwl]; omega)
          clear hwl
          clear hwin hvw
          generalize (xs.take (c + n)).drop c = ps at *
          have hl3 : (T ++ sep).length + (lineS dg st ps).length + 10 ≤ 70000000000000 := by rw [List.length_append]; omega
          go_wp2_with fail
          refine (writeFlat1 B b eb dg st (n / st) (T ++ sep) _ ps w3 hb3 hp3 HVW.out hst hst2 HPL.out HP0.out hl3).mono ?_
          rintro e w4 ⟨rfl, hb4, hbl4⟩
          go_wp2_with fail
          go_roundg (gk - 1)
          case measure => omega
          case rel => exact ⟨k + 1, _, by omega, HS, by omega, by go_num, by go_num, by rw [HQ.out, HE.out]; exact hb4, hbl3.trans hbl4⟩
    · obtain rfl : k = N := by omega
      have HE : Hid (t ++ [40] ++ joinN (partT (lineS dg st) xs s es) k ++ [41] = t ++ partsT (lineS dg st) xs s es) := Lib.hid (by unfold partsT; rw [← HN.out]; simp)
      have hl4 : (t ++ [40] ++ joinN (partT (lineS dg st) xs s es) k).length + 4 ≤ 140737488355328 := by simp only [List.length_append, List.length_cons, List.length_nil]; omega
      go_wp2_with fail
      refine (writeRune B b _ 41 41 rfl (by decide) _ hb hl4 hpr.base).mono ?_
      rintro e w4 ⟨y2, rfl, hb4, hbl4⟩
      go_wp2_with fail
      go_ret
      exact ⟨rfl, by rw [← HE.out]; exact hb4, hbl.trans hbl4⟩
end Go.Proofs.YtlmilelopajdiaaGreatDoor

/-
  writeFlatCoords3.
-/
namespace Go.Proofs.YtlmilelopajdiaaGreatDoor
open Go.RowKit

/-- A slice of slices of whole numbers, all below block B. -/
def SRow (w : World) (B : Nat) (v : Value) (ess : List (List Nat)) : Prop :=
  ess.length ≤ 1000000000 ∧ ((ess = [] ∧ v = .slice none 0 0) ∨ ∃ b o cap, v = .slice (some ⟨b, o, none⟩) ess.length cap ∧ b < B ∧ ess.length ≤ cap ∧ cap ≤ 9223372036854775807 ∧
    ∀ (j : Nat) (hj : j < ess.length), ∃ u, w.cell? ⟨b, o + j, none⟩ = some u ∧ IRow w B u ess[j])
theorem SRow.below {w w' : World} {B : Nat} {v : Value} {xs : List (List Nat)} (h : SRow w B v xs) (hb : Below B w w') : SRow w' B v xs := by
  obtain ⟨h1, h2 | ⟨b, o, cap, h2, h3, h4, h5, h6⟩⟩ := h
  · exact ⟨h1, Or.inl h2⟩
  · exact ⟨h1, Or.inr ⟨b, o, cap, h2, h3, h4, h5, fun j hj => by obtain ⟨u, hu1, hu2⟩ := h6 j hj; exact ⟨u, by rw [hb.cell h3]; exact hu1, hu2.below hb⟩⟩⟩
/-- Where the numbers of part k begin. -/
def stE (ess : List (List Nat)) (k : Nat) : Nat := (ess.take k).foldl (fun s es => if es = [] then s else es.getD (es.length - 1) 0) 0
theorem stE_succ (ess : List (List Nat)) (k : Nat) (hk : k < ess.length) : stE ess (k + 1) = if ess[k] = [] then stE ess k else ess[k].getD (ess[k].length - 1) 0 := by
  unfold stE
  rw [List.take_add_one, List.getElem?_eq_getElem hk]
  show List.foldl _ 0 (ess.take k ++ [ess[k]]) = _
  rw [List.foldl_append]
  rfl
noncomputable def areaT (dg : Int) (st : Nat) (xs : List Nat) (ess : List (List Nat)) (k : Nat) : List UInt8 :=
  if ess.getD k [] = [] then EMPTY else partsT (lineS dg st) xs (stE ess k) (ess.getD k [])
noncomputable def areasT (dg : Int) (st : Nat) (xs : List Nat) (ess : List (List Nat)) : List UInt8 := [40] ++ joinN (areaT dg st xs ess) ess.length ++ [41]

set_option maxRecDepth 100000 in
set_option maxHeartbeats 4000000 in
theorem writeFlat3 (B b eb : Nat) (dg : Int) (st : Nat) (hst : 1 ≤ st) (hst2 : st ≤ 1000) (t : List UInt8) (v ve : Value) (xs : List Nat) (ess : List (List Nat)) (w : World) (h : BB w B b t) (hp : WPre B b eb dg w) (hv : FRow w B v xs) (hve : SRow w B ve ess)
    (h0 : 0 < ess.length)
    (hs : ∀ j, stE ess j ≤ 1000000000)
    (hin : ∀ j, j < ess.length → ∀ k, k < (ess.getD j []).length → (ess.getD j []).getD k 0 ≤ xs.length)
    (hdv : ∀ j, j < ess.length → ∀ k, k < (ess.getD j []).length → ((ess.getD j []).getD k 0 - stAt (stE ess j) (ess.getD j []) k) % st = 0)
    (hlen : t.length + (areasT dg st xs ess).length + 40 ≤ 70000000000000) :
    Calls Tryz.prog 74 #[.pointer (some ⟨eb, 0, none⟩), .pointer (some ⟨b, 0, none⟩), v, ve, .int .i64 (st : Nat)] w fun e w' => e = .returned .nilIface ∧ BB w' B b (t ++ areasT dg st xs ess) ∧ Below B w w' := by
  obtain ⟨N, hN⟩ : ∃ N, N = ess.length := ⟨_, rfl⟩
  have hl : (areasT dg st xs ess).length = (joinN (areaT dg st xs ess) N).length + 2 := by unfold areasT; rw [hN]; simp
  obtain ⟨h1, ⟨e1, _⟩ | ⟨ib, io, icap, rfl, hib, hic, hic2, hcell⟩⟩ := hve
  · rw [e1] at h0; simp at h0
  have HC : Hid (∀ k (es : List Nat), k < N → es = ess.getD k [] → ∃ u, IRow w B u es ∧ w.cell? ⟨ib, io + k, none⟩ = some u) := Lib.hid (by
    intro k es hk he
    rw [hN] at hk
    have hg : ess.getD k [] = ess[k] := by rw [List.getD, List.getElem?_eq_getElem hk]; rfl
    rw [hg] at he
    subst he
    obtain ⟨u, hu1, hu2⟩ := hcell k hk
    exact ⟨u, hu2, hu1⟩)
  have HSU : Hid (∀ k (es : List Nat), k < N → es = ess.getD k [] → stE ess (k + 1) = if es = [] then stE ess k else es.getD (es.length - 1) 0) := Lib.hid (by
    intro k es hk he
    rw [hN] at hk
    have hg : ess.getD k [] = ess[k] := by rw [List.getD, List.getElem?_eq_getElem hk]; rfl
    rw [hg] at he
    subst he
    exact stE_succ ess k hk)
  have HN := Lib.hid hN
  have HIN := Lib.hid hin
  have HDV := Lib.hid hdv
  have HV := Lib.hid hv
  have HS0 := Lib.hid hs
  rw [← hN] at hic h1 ⊢
  clear hN hin hdv hcell h0 hv hs
  go_enter Tryz.func74, Tryz.ntmps74
  go_wp2_with fail
  refine (writeRune B b t 40 40 rfl (by decide) _ h (by omega) hp.base).mono ?_
  rintro e w2 ⟨y, rfl, hb2, hbl2⟩
  go_wp2_with fail
  go_loopg [13, 32] N (fun g v13 v32 wr => ∃ k c : Nat, k + g = N ∧ Hid (c = stE ess k) ∧ v32 = .int .i64 k ∧ v13 = .int .i64 c ∧ BB wr B b (t ++ [40] ++ joinN (areaT dg st xs ess) k) ∧ Below B w wr)
  case atStart => exact ⟨0, 0, by omega, Lib.hid (by unfold stE; simp), rfl, rfl, by simpa [joinN] using hb2, hbl2⟩
  case round =>
    clear hb2 hbl2
    obtain ⟨k, c, hk, Hc, rfl, rfl, hb, hbl⟩ := hrel
    have hpr := hp.below hbl
    have hc1 : c ≤ 1000000000 := by rw [Hc.out]; exact HS0.out k
    by_cases hkn : k < N
    · obtain ⟨es, he⟩ : ∃ es, es = ess.getD k [] := ⟨_, rfl⟩
      obtain ⟨u, hu, hcu⟩ := HC.out k es hkn he
      have hcl : wr.cell? ⟨ib, io + k, none⟩ = some u := by rw [hbl.cell hib]; exact hcu
      obtain ⟨sep, hsep⟩ : ∃ sep : List UInt8, sep = if k = 0 then [] else [44, 32] := ⟨_, rfl⟩
      obtain ⟨T, hT⟩ : ∃ T, T = t ++ [40] ++ joinN (areaT dg st xs ess) k := ⟨_, rfl⟩
      obtain ⟨A, hA⟩ : ∃ A, A = areaT dg st xs ess k := ⟨_, rfl⟩
      have HA : Hid (A = if es = [] then EMPTY else partsT (lineS dg st) xs c es) := Lib.hid (by rw [hA]; unfold areaT; rw [← Hc.out, ← he])
      have HQ : Hid (t ++ [40] ++ joinN (areaT dg st xs ess) (k + 1) = T ++ sep ++ A) := Lib.hid (by
        rw [joinN_succ, hT, hsep, hA]; simp)
      have HM : T.length + sep.length + A.length + 30 ≤ 70000000000000 := by
        have h5 := congrArg List.length HQ.out
        have h6 := joinN_mono (areaT dg st xs ess) (k + 1) N hkn
        simp only [List.length_append, List.length_cons, List.length_nil] at h5; omega
      have HS : Hid (stE ess (k + 1) = if es = [] then c else es.getD (es.length - 1) 0) := Lib.hid (by rw [HSU.out k es hkn he, ← Hc.out])
      have HI : Hid (∀ q, q < es.length → es.getD q 0 ≤ xs.length) := Lib.hid (by rw [he]; exact HIN.out k (by rw [← HN.out]; exact hkn))
      have HD : Hid (∀ q, q < es.length → (es.getD q 0 - stAt c es q) % st = 0) := Lib.hid (by rw [he, Hc.out]; exact HDV.out k (by rw [← HN.out]; exact hkn))
      rw [← hT] at hb
      have HSP := Lib.hid hsep
      have HU := Lib.hid hu
      obtain ⟨ua, un, uc, rfl, hun, huc⟩ : ∃ a n c, u = .slice a n c ∧ n = es.length ∧ n ≤ 1000000000 := by
        rcases hu.2.2 with ⟨e1, e2⟩ | ⟨b', o', c', e, _⟩
        · exact ⟨_, _, _, e2, by rw [e1]; rfl, by omega⟩
        · exact ⟨_, _, _, e, rfl, hu.1⟩
      have HUN := Lib.hid hun
      clear hT hsep hl he hcu hA hu hun
      go_upto_if 38 with (fail)
      go_cut [] (fun wx => BB wx B b (T ++ sep) ∧ Below B w wx)
      case first =>
        by_cases hk0 : k = 0
        · subst hk0
          have HE : Hid (T ++ sep = T) := Lib.hid (by rw [HSP.out, if_pos rfl]; simp)
          go_wp2_with fail
          go_meet
          exact ⟨by rw [HE.out]; exact hb, hbl⟩
        · have HE : Hid (sep = [44, 32]) := Lib.hid (by rw [HSP.out, if_neg hk0])
          have hki : ((k : Int) != 0) = true := by simp; omega
          have h2 : T.length + [(44 : UInt8), 32].length ≤ 140737488355328 := by simp; omega
          clear hk0
          go_wp2_with fail
          refine (writeString B b T [44, 32] _ hb h2 hpr.base).mono ?_
          rintro e w3 ⟨rfl, hb3, hbl3⟩
          go_wp2_with fail
          go_meet
          exact ⟨by rw [HE.out]; exact hb3, hbl.trans hbl3⟩
      case rest =>
        obtain ⟨hb3, hbl3⟩ := hcut
        generalize wc = w3 at *
        have hp3 := hp.below hbl3
        clear hb hbl hpr hcl
        by_cases hes : es = []
        · have hun0 : un = 0 := by rw [HUN.out, hes]; rfl
          have HE : Hid (A = EMPTY) := Lib.hid (by rw [HA.out, if_pos hes])
          have HS' : Hid (c = stE ess (k + 1)) := Lib.hid (by rw [HS.out, if_pos hes])
          have hl3 : (T ++ sep).length ≤ 100000000000000 := by rw [List.length_append]; omega
          clear HUN hes
          subst hun0
          go_wp2_with fail
          refine (writeEMPTY B b eb (T ++ sep) w3 hb3 hp3.base hl3).mono ?_
          rintro e w4 ⟨rfl, hb4, hbl4⟩
          go_wp2_with fail
          go_roundg (gk - 1)
          case measure => omega
          case rel => exact ⟨k + 1, c, by omega, HS', by go_num, rfl, by rw [HQ.out, HE.out]; exact hb4, hbl3.trans hbl4⟩
        · have hun := HUN.out
          have hpos : 0 < es.length := List.length_pos_iff.2 hes
          obtain ⟨n, hn⟩ : ∃ n, un = n + 1 := ⟨un - 1, by omega⟩
          have HE : Hid (A = partsT (lineS dg st) xs c es) := Lib.hid (by rw [HA.out, if_neg hes])
          have HS' : Hid (stE ess (k + 1) = es.getD n 0) := Lib.hid (by rw [HS.out, if_neg hes, ← hun, hn]; rfl)
          have HI2 := HU.out
          obtain ⟨q1, q2, ⟨e1, _⟩ | ⟨jb, jo, jcap, e2, hjb, hjc, hjc2, hjcell⟩⟩ := HI2
          · exact absurd e1 hes
          · injection e2 with e3 e4 e5
            have hel : es.getD n 0 = es[n] := by rw [List.getD, List.getElem?_eq_getElem (by omega)]; rfl
            obtain ⟨z, hz⟩ : ∃ z, z = es.getD n 0 := ⟨_, rfl⟩
            have HZ : Hid (∀ w', Below B w w' → w'.cell? ⟨jb, jo + n, none⟩ = some (.int .i64 (z : Nat))) := Lib.hid (fun w' hb => by
              rw [hb.cell hjb, hjcell n (by omega), hz, hel])
            have HZE : Hid (z = stE ess (k + 1)) := Lib.hid (by rw [HS'.out, hz])
            rw [HE.out] at HM
            have hl3 : (T ++ sep).length + (partsT (lineS dg st) xs c es).length + 20 ≤ 70000000000000 := by rw [List.length_append]; omega
            have hn0 : ((un : Int) == 0) = false := by rw [beq_eq_false_iff_ne]; omega
            have hn1 : (un : Int) - 1 = (n : Int) := by omega
            have hnn : (n : Int) < un := by omega
            subst e3
            have HCAL := Lib.hid (writeFlat2 B b eb dg st c hst hst2 (T ++ sep) v _ xs es w3 hb3 hp3 (HV.out.below hbl3) (HU.out.below hbl3) hpos hc1 HI.out HD.out hl3)
            have hun2 : 0 < un := by omega
            clear e4 e5 hjcell hel hz hes hpos hun q1 q2 hn HU HI HD HV HIN HDV HUN HC HSU
            go_wp2_with fail
            refine HCAL.out.mono ?_
            rintro e w4 ⟨rfl, hb4, hbl4⟩
            have hcz := HZ.out w4 (hbl3.trans hbl4)
            go_wp2_with fail
            go_roundg (gk - 1)
            case measure => omega
            case rel => exact ⟨k + 1, z, by omega, HZE, by go_num, rfl, by rw [HQ.out, HE.out]; exact hb4, hbl3.trans hbl4⟩
    · obtain rfl : k = N := by omega
      have HE : Hid (t ++ [40] ++ joinN (areaT dg st xs ess) k ++ [41] = t ++ areasT dg st xs ess) := Lib.hid (by unfold areasT; rw [← HN.out]; simp)
      have hl4 : (t ++ [40] ++ joinN (areaT dg st xs ess) k).length + 4 ≤ 140737488355328 := by simp only [List.length_append, List.length_cons, List.length_nil]; omega
      go_wp2_with fail
      refine (writeRune B b _ 41 41 rfl (by decide) _ hb hl4 hpr.base).mono ?_
      rintro e w4 ⟨y2, rfl, hb4, hbl4⟩
      go_wp2_with fail
      go_ret
      exact ⟨rfl, by rw [← HE.out]; exact hb4, hbl.trans hbl4⟩
end Go.Proofs.YtlmilelopajdiaaGreatDoor
