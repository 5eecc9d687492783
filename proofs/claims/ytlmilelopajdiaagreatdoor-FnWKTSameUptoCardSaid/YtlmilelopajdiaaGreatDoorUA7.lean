/-
  A multiprecision decimal in a block of its own; trim.
-/
import Derived.Test.YtlmilelopajdiaaGreatDoorUA5
import Derived.Deep.LoopGhost
import Derived.PlainAid
namespace Go.Proofs.YtlmilelopajdiaaGreatDoor
open Go.RowKit

structure Dc where
  E : Nat → Int
  nd : Nat
  dp : Int
  tr : Bool
/-- Block b holds the decimal s. -/
def DecAt (w : World) (b : Nat) (s : Dc) : Prop :=
  ∃ cs : Array Value, w.heap[b]? = some (.cells cs 179 (0, 0)) ∧ cs.size = 804 ∧ (∀ j, j < 800 → cs[j]? = some (.int .u8 (s.E j))) ∧
    cs[800]? = some (.int .i64 s.nd) ∧ cs[801]? = some (.int .i64 s.dp) ∧ cs[803]? = some (.bool s.tr)
def upd (E : Nat → Int) (i : Nat) (x : Int) : Nat → Int := fun j => if j = i then x else E j
theorem upd_same (E : Nat → Int) (i : Nat) (x : Int) : upd E i x i = x := by simp [upd]
theorem upd_other (E : Nat → Int) (i : Nat) (x : Int) (j : Nat) (h : j ≠ i) : upd E i x j = E j := by simp [upd, h]
section
variable {w : World} {b : Nat} {s : Dc}
theorem DecAt.cellE (h : DecAt w b s) (j : Nat) (hj : j < 800) : w.cell? ⟨b, j, none⟩ = some (.int .u8 (s.E j)) := by
  obtain ⟨cs, h1, h2, h3, _⟩ := h; rw [Lib.cell_of_heap h1, h3 j hj]
theorem DecAt.cellN (h : DecAt w b s) : w.cell? ⟨b, 800, none⟩ = some (.int .i64 s.nd) := by
  obtain ⟨cs, h1, h2, h3, h4, _⟩ := h; rw [Lib.cell_of_heap h1, h4]
theorem DecAt.cellP (h : DecAt w b s) : w.cell? ⟨b, 801, none⟩ = some (.int .i64 s.dp) := by
  obtain ⟨cs, h1, h2, h3, h4, h5, _⟩ := h; rw [Lib.cell_of_heap h1, h5]
theorem DecAt.cellT (h : DecAt w b s) : w.cell? ⟨b, 803, none⟩ = some (.bool s.tr) := by
  obtain ⟨cs, h1, h2, h3, h4, h5, h6⟩ := h; rw [Lib.cell_of_heap h1, h6]
theorem DecAt.free (h : DecAt w b s) (j : Nat) : w.frozen? ⟨b, j, none⟩ = false := by
  obtain ⟨cs, h1, _⟩ := h; exact Lib.frozen_of_heap h1 j
theorem DecAt.lt (h : DecAt w b s) : b < w.heap.size := by
  obtain ⟨cs, h1, _⟩ := h; exact lt_of_block h1
theorem set_block {w : World} {b : Nat} {cs : Array Value} {T : TypeId} (h : w.heap[b]? = some (.cells cs T (0, 0))) (j : Nat) (v : Value) :
    (w.setCell ⟨b, j, none⟩ v).heap[b]? = some (.cells (cs.setIfInBounds j v) T (0, 0)) := by
  simp [World.setCell, Array.getElem?_modify, h]
theorem DecAt.setE (h : DecAt w b s) (j : Nat) (hj : j < 800) (x : Int) : DecAt (w.setCell ⟨b, j, none⟩ (.int .u8 x)) b { s with E := upd s.E j x } := by
  obtain ⟨cs, h1, h2, h3, h4, h5, h6⟩ := h
  refine ⟨_, set_block h1 j _, by simpa using h2, ?_, ?_, ?_, ?_⟩
  · intro k hk
    by_cases e : k = j
    · subst e; rw [Array.getElem?_setIfInBounds_self_of_lt (by omega)]; simp [upd]
    · rw [Array.getElem?_setIfInBounds_ne (Ne.symm e), h3 k hk]; simp [upd, e]
  all_goals (rw [Array.getElem?_setIfInBounds_ne (by omega)]; assumption)
theorem DecAt.setN (h : DecAt w b s) (n : Nat) : DecAt (w.setCell ⟨b, 800, none⟩ (.int .i64 n)) b { s with nd := n } := by
  obtain ⟨cs, h1, h2, h3, h4, h5, h6⟩ := h
  refine ⟨_, set_block h1 800 _, by simpa using h2, ?_, ?_, ?_, ?_⟩
  · intro k hk; rw [Array.getElem?_setIfInBounds_ne (by omega), h3 k hk]
  · rw [Array.getElem?_setIfInBounds_self_of_lt (by omega)]
  all_goals (rw [Array.getElem?_setIfInBounds_ne (by omega)]; assumption)
theorem DecAt.setP (h : DecAt w b s) (x : Int) : DecAt (w.setCell ⟨b, 801, none⟩ (.int .i64 x)) b { s with dp := x } := by
  obtain ⟨cs, h1, h2, h3, h4, h5, h6⟩ := h
  refine ⟨_, set_block h1 801 _, by simpa using h2, ?_, ?_, ?_, ?_⟩
  · intro k hk; rw [Array.getElem?_setIfInBounds_ne (by omega), h3 k hk]
  · rw [Array.getElem?_setIfInBounds_ne (by omega)]; assumption
  · rw [Array.getElem?_setIfInBounds_self_of_lt (by omega)]
  · rw [Array.getElem?_setIfInBounds_ne (by omega)]; assumption
theorem DecAt.setT (h : DecAt w b s) (x : Bool) : DecAt (w.setCell ⟨b, 803, none⟩ (.bool x)) b { s with tr := x } := by
  obtain ⟨cs, h1, h2, h3, h4, h5, h6⟩ := h
  refine ⟨_, set_block h1 803 _, by simpa using h2, ?_, ?_, ?_, ?_⟩
  · intro k hk; rw [Array.getElem?_setIfInBounds_ne (by omega), h3 k hk]
  · rw [Array.getElem?_setIfInBounds_ne (by omega)]; assumption
  · rw [Array.getElem?_setIfInBounds_ne (by omega)]; assumption
  · rw [Array.getElem?_setIfInBounds_self_of_lt (by omega)]
theorem DecAt.drewN (h : DecAt w b s) (n : Nat) : DecAt (w.drewN n) b s := h
theorem DecAt.below {w' : World} (h : DecAt w b s) (hb : Below w.heap.size w w') : DecAt w' b s := by
  have hl := h.lt
  obtain ⟨cs, h1, r⟩ := h
  exact ⟨cs, (hb.block b hl).trans h1, r⟩
end
def trimD (s : Dc) : Dc := { s with nd := tz s.E s.nd, dp := if tz s.E s.nd = 0 then 0 else s.dp }

set_option maxHeartbeats 400000 in
theorem trim (w : World) (b : Nat) (s : Dc) (h : DecAt w b s) (hnd : s.nd ≤ 800) :
    Calls Tryz.prog 119 #[.pointer (some ⟨b, 0, none⟩)] w fun e w' => e = .returned (.tuple #[]) ∧ DecAt w' b (trimD s) ∧ Below b w w' := by
  go_enter Tryz.func119, Tryz.ntmps119
  go_wp2_with fail
  go_loopg [] s.nd (fun k wr => k ≤ s.nd ∧ Hid (tz s.E k = tz s.E s.nd) ∧ DecAt wr b { s with nd := k } ∧ Below b w wr)
  case atStart => exact ⟨Nat.le_refl _, Lib.hid rfl, h, Below.refl _ _⟩
  case round =>
    obtain ⟨hk, ht, hd, hb⟩ := hrel
    have cN := hd.cellN
    have cP := hd.cellP
    have fN := hd.free 800
    have fP := hd.free 801
    dsimp only at cN cP
    by_cases hk0 : gk ≤ 0
    · have hn : Hid (tz s.E s.nd = 0) := Lib.hid (by rw [← ht.out]; have := tz_le s.E gk; omega)
      obtain rfl : gk = 0 := by omega
      clear ht
      go_wp2_with fail
      go_quiet (fail)
      go_wp2_with fail
      go_end0
      exact ⟨rfl, by unfold trimD; rw [hn.out, if_pos rfl]; exact (hd.drewN _).setP 0, (below_drewN hb _).setCell (Nat.le_refl _) _⟩
    · obtain ⟨m, rfl⟩ : ∃ m, gk = m + 1 := ⟨gk - 1, by omega⟩
      have hc := hd.cellE m (by omega)
      dsimp only at hc
      by_cases h48 : s.E m = 48
      · have h1 : (s.E m == 48) = true := by simp [h48]
        have hn : Hid (tz s.E m = tz s.E s.nd) := Lib.hid (by rw [← ht.out, tz, if_pos h48])
        clear h48
        go_wp2_with fail
        go_quiet (fail)
        go_wp2_with fail
        go_roundg m
        case measure => omega
        case rel => exact ⟨by omega, hn, (hd.drewN _).setN m, (below_drewN hb _).setCell (Nat.le_refl _) _⟩
      · have h1 : (s.E m == 48) = false := by simp [h48]
        have hn : Hid (m + 1 = tz s.E s.nd) := Lib.hid (by rw [← ht.out, tz, if_neg h48])
        clear h48
        have h2 : (((m + 1 : Nat) : Int) == 0) = false := by simp; omega
        go_wp2_with fail
        go_quiet (fail)
        go_wp2_with fail
        go_end0
        exact ⟨rfl, by unfold trimD; rw [← hn.out, if_neg (by omega)]; exact hd.drewN _, below_drewN hb _⟩
end Go.Proofs.YtlmilelopajdiaaGreatDoor

/-
  Assign: the digits of a number into a decimal.
-/
namespace Go.Proofs.YtlmilelopajdiaaGreatDoor
open Go.RowKit

/-- A buffer of bytes of a call's own, in block b: size cells; the first n hold D. -/
def BufAt (w : World) (b : Nat) (T : TypeId) (size : Nat) (D : Nat → Int) (n : Nat) : Prop :=
  ∃ cs : Array Value, w.heap[b]? = some (.cells cs T (0, 0)) ∧ cs.size = size ∧ (∀ j, j < n → cs[j]? = some (.int .u8 (D j))) ∧ (∀ j, j < size → ∃ x : Int, cs[j]? = some (.int .u8 x))
section
variable {w : World} {b : Nat} {T : TypeId} {size n : Nat} {D : Nat → Int}
theorem BufAt.cell (h : BufAt w b T size D n) (j : Nat) (hj : j < n) : w.cell? ⟨b, j, none⟩ = some (.int .u8 (D j)) := by
  obtain ⟨cs, h1, h2, h3, h4⟩ := h; rw [Lib.cell_of_heap h1, h3 j hj]
theorem BufAt.any (h : BufAt w b T size D n) (j : Nat) (hj : j < size) : ∃ x : Int, w.cell? ⟨b, j, none⟩ = some (.int .u8 x) := by
  obtain ⟨cs, h1, h2, h3, h4⟩ := h
  obtain ⟨x, hx⟩ := h4 j hj
  exact ⟨x, by rw [Lib.cell_of_heap h1, hx]⟩
theorem BufAt.free (h : BufAt w b T size D n) (j : Nat) : w.frozen? ⟨b, j, none⟩ = false := by
  obtain ⟨cs, h1, _⟩ := h; exact Lib.frozen_of_heap h1 j
theorem BufAt.lt (h : BufAt w b T size D n) : b < w.heap.size := by
  obtain ⟨cs, h1, _⟩ := h; exact lt_of_block h1
theorem BufAt.set (h : BufAt w b T size D n) (hn : n < size) : BufAt (w.setCell ⟨b, n, none⟩ (.int .u8 (D n))) b T size D (n + 1) := by
  obtain ⟨cs, h1, h2, h3, h4⟩ := h
  refine ⟨_, set_block h1 n _, by simpa using h2, ?_, ?_⟩
  · intro j hj
    by_cases e : j = n
    · subst e; rw [Array.getElem?_setIfInBounds_self_of_lt (by omega)]
    · rw [Array.getElem?_setIfInBounds_ne (Ne.symm e), h3 j (by omega)]
  · intro j hj
    by_cases e : j = n
    · subst e; exact ⟨_, by rw [Array.getElem?_setIfInBounds_self_of_lt (by omega)]⟩
    · rw [Array.getElem?_setIfInBounds_ne (Ne.symm e)]; exact h4 j hj
theorem BufAt.drewN (h : BufAt w b T size D n) (k : Nat) : BufAt (w.drewN k) b T size D n := h
theorem BufAt.setOther (h : BufAt w b T size D n) (a : Addr) (ha : a.block ≠ b) (v : Value) : BufAt (w.setCell a v) b T size D n := by
  obtain ⟨cs, h1, r⟩ := h
  exact ⟨cs, by rw [Below.heap_setCell _ _ _ _ (Ne.symm ha)]; exact h1, r⟩
end
theorem DecAt.setOther {w : World} {b : Nat} {s : Dc} (h : DecAt w b s) (a : Addr) (ha : a.block ≠ b) (v : Value) : DecAt (w.setCell a v) b s := by
  obtain ⟨cs, h1, r⟩ := h
  exact ⟨cs, by rw [Below.heap_setCell _ _ _ _ (Ne.symm ha)]; exact h1, r⟩
def rdg (u j : Nat) : Int := 48 + ((u / 10 ^ j % 10 : Nat) : Int)

theorem buf_new (w : World) (T : TypeId) (D : Nat → Int) (n : Nat) : BufAt (w.alloc (.cells (Array.replicate n (.int .u8 0)) T)) w.heap.size T n D 0 :=
  ⟨_, heap_alloc_new w _, by simp, fun j hj => by omega, fun j hj => ⟨0, by rw [Array.getElem?_replicate, if_pos hj]⟩⟩
theorem buf24_new (w : World) (T : TypeId) (D : Nat → Int) : BufAt (w.alloc (.cells #[Value.int .u8 0, Value.int .u8 0, Value.int .u8 0, Value.int .u8 0, Value.int .u8 0, Value.int .u8 0, Value.int .u8 0, Value.int .u8 0, Value.int .u8 0, Value.int .u8 0, Value.int .u8 0, Value.int .u8 0, Value.int .u8 0, Value.int .u8 0, Value.int .u8 0, Value.int .u8 0, Value.int .u8 0, Value.int .u8 0, Value.int .u8 0, Value.int .u8 0, Value.int .u8 0, Value.int .u8 0, Value.int .u8 0, Value.int .u8 0] T)) w.heap.size T 24 D 0 := buf_new w T D 24
theorem div_zero_mono (u n m : Nat) (h : n ≤ m) (h0 : 0 = u / 10 ^ n) : u / 10 ^ m = 0 := by
  obtain ⟨k, rfl⟩ : ∃ k, m = n + k := ⟨m - n, by omega⟩
  rw [Nat.pow_add, ← Nat.div_div_eq_div_mul, ← h0]; simp
theorem div_succ (u n : Nat) : u / 10 ^ (n + 1) = u / 10 ^ n / 10 := by rw [Nat.pow_succ, Nat.div_div_eq_div_mul]

theorem rdg_step (u n k m : Nat) (E : Nat → Int) (h : k + (m + 1) = n) : upd (fun j => if j < k then dgi u n j else E j) k (rdg u m) = fun j => if j < k + 1 then dgi u n j else E j := by
  funext j
  unfold upd
  by_cases e : j = k
  · subst e
    rw [if_pos rfl, if_pos (by omega)]
    unfold rdg dgi
    rw [show n - 1 - j = m by omega]
  · rw [if_neg e]; dsimp only
    by_cases h2 : j < k
    · rw [if_pos h2, if_pos (by omega)]
    · rw [if_neg h2, if_neg (by omega)]
set_option maxHeartbeats 1000000 in
theorem assign (w : World) (b : Nat) (s : Dc) (h : DecAt w b s) (u N : Nat) (hu : u < 18446744073709551616) (hN : N ≤ 20) (hN0 : u / 10 ^ N = 0) (hN1 : N = 0 ∨ 0 < u / 10 ^ (N - 1)) :
    Calls Tryz.prog 100 #[.pointer (some ⟨b, 0, none⟩), .int .u64 u] w fun e w' => e = .returned (.tuple #[]) ∧ DecAt w' b (trimD { s with E := fun j => if j < N then dgi u N j else s.E j, nd := N, dp := N }) ∧ Below b w w' := by
  have hbl := h.lt
  go_enter Tryz.func100, Tryz.ntmps100
  go_wp2_with fail
  have hB0 := buf24_new w 174 (rdg u)
  generalize hw1 : w.alloc _ = w1 at hB0 ⊢
  have hD1 : DecAt w1 b s := by rw [← hw1]; exact h.below ((Below.refl _ _).alloc (Nat.le_refl _) _)
  have hb1 : Below b w w1 := by rw [← hw1]; exact (Below.refl _ _).alloc (by omega) _
  clear hw1 h
  obtain ⟨B, hBs⟩ : ∃ B, B = w.heap.size := ⟨_, rfl⟩
  rw [← hBs] at hbl hB0 ⊢
  clear hBs
  have Q0 := Lib.hid hN0
  have Q1 := Lib.hid hN1
  have Qp := Lib.hid (fun k : Nat => div_succ u k)
  clear hN0 hN1
  go_loopw [1, 5] (fun v1 v5 wr => ∃ (n q : Nat), n ≤ N ∧ Hid (q = u / 10 ^ n) ∧ q < 18446744073709551616 ∧ v5 = .int .i64 n ∧ v1 = .int .u64 q ∧ BufAt wr B 174 24 (rdg u) n ∧ DecAt wr b s ∧ Below b w wr) (fun _ v5 _ => (N - (intOf v5).toNat))
  case atStart => exact ⟨0, u, Nat.zero_le _, Lib.hid (by simp), hu, rfl, rfl, hB0, hD1, hb1⟩
  case round =>
    obtain ⟨n, q, hn, hq, hq1, rfl, rfl, hB, hD, hb⟩ := hrel
    by_cases hq0 : 0 < q
    · have hnN : n < N := by
        rcases Nat.lt_or_ge n N with h' | h'
        · exact h'
        · have : n = N := by omega
          subst this
          have := hq.out; have := Q0.out; omega
      have hF := hB.free n
      obtain ⟨x, hX⟩ := hB.any n (by omega)
      have HQ' : Hid (q / 10 = u / 10 ^ (n + 1)) := Lib.hid (by rw [Qp.out, ← hq.out])
      have HR : Hid (((q : Int) - 10 * ((q : Int) / 10)) + 48 = rdg u n) := Lib.hid (by unfold rdg; rw [← hq.out]; omega)
      go_wp2_with fail
      go_roundw
      case rel => exact ⟨n + 1, q / 10, by omega, HQ', by omega, by go_num, by go_num, by rw [HR.out]; exact hB.set (by omega), hD.setOther _ (by simp; omega) _, hb.setCell (by simp; omega) _⟩
      case measure => simp [intOf]; omega
    · have hq00 : q = 0 := by omega
      have hnN : n = N := by
        rcases Q1.out with h' | h'
        · omega
        · rcases Nat.lt_or_ge n N with h2 | h2
          · exfalso
            have h3 := hq.out
            rw [hq00] at h3
            have h4 := div_zero_mono u n (N - 1) (by omega) h3
            omega
          · omega
      obtain rfl := hnN
      have fN := hD.free 800
      have cN := hD.cellN
      clear hq hq1 hq0
      go_wp2_with fail
      have hD2 : DecAt (wr.setCell ⟨b, 800, none⟩ (.int .i64 0)) b { s with E := s.E, nd := 0 } := hD.setN 0
      have hB2 : BufAt (wr.setCell ⟨b, 800, none⟩ (.int .i64 0)) B 174 24 (rdg u) n := hB.setOther _ (by simp; omega) _
      have hb2 : Below b w (wr.setCell ⟨b, 800, none⟩ (.int .i64 0)) := hb.setCell (by simp) _
      generalize wr.setCell ⟨b, 800, none⟩ (.int .i64 0) = w2 at hD2 hB2 hb2 ⊢
      clear hD hB hb fN cN hD1 hb1 hB0
      go_loopw [5] (fun v5 wr => ∃ (k m : Nat), k + m = n ∧ v5 = .int .i64 ((m : Int) - 1) ∧ DecAt wr b { s with E := fun j => if j < k then dgi u n j else s.E j, nd := k } ∧ BufAt wr B 174 24 (rdg u) n ∧ Below b w wr) (fun v5 _ => ((intOf v5 + 1).toNat))
      case atStart => exact ⟨0, n, by omega, by go_num, by simpa using hD2, hB2, hb2⟩
      case round =>
        obtain ⟨k, m, hkm, rfl, hD, hB, hb⟩ := hrel
        by_cases hm : 0 < m
        · obtain ⟨m, rfl⟩ : ∃ m', m = m' + 1 := ⟨m - 1, by omega⟩
          have fk := hD.free k
          have fN := hD.free 800
          have cN := hD.cellN
          have ck := hD.cellE k (by omega)
          have cm := hB.cell m (by omega)
          dsimp only at cN ck
          have e1 : (((m + 1 : Nat) : Int) - 1) = (m : Int) := by omega
          rw [e1]
          go_wp2_with fail
          go_region
          go_wp2_with fail
          have hE := rdg_step u n k m s.E (by omega)
          go_roundw
          case rel => exact ⟨k + 1, m, by omega, by go_num, by rw [← hE]; exact (hD.setE k (by omega) (rdg u m)).setN (k + 1), (hB.setOther _ (by simp; omega) _).setOther _ (by simp; omega) _, ((hb.drew).setCell (by simp) _).setCell (by simp) _⟩
          case measure => simp [intOf]
        · obtain rfl : m = 0 := by omega
          obtain rfl : k = n := by omega
          have fP := hD.free 801
          have cN := hD.cellN
          have cP := hD.cellP
          dsimp only at cN cP
          go_wp2_with fail
          refine (trim _ b _ (hD.setP k) (by simp; omega)).mono ?_
          rintro en w' ⟨rfl, hT, hbT⟩
          go_wp2_with fail
          go_end0
          exact ⟨rfl, hT, (hb.setCell (by simp) _).trans hbT⟩
end Go.Proofs.YtlmilelopajdiaaGreatDoor

/-
  prefixIsLessThan: the walk, and what it says of numbers.
-/
namespace Go.Proofs.YtlmilelopajdiaaGreatDoor
open Go.RowKit Go.PlainAid

/-- The answer from place L - r on. -/
def pfx (D C : Nat → Int) (nd L : Nat) : Nat → Bool
  | 0 => false
  | r + 1 => if nd ≤ L - (r + 1) then true else if D (L - (r + 1)) = C (L - (r + 1)) then pfx D C nd L r else decide (D (L - (r + 1)) < C (L - (r + 1)))

set_option maxHeartbeats 400000 in
theorem prefixLess (w : World) (b nd cap : Nat) (D : Nat → Int) (s : ByteArray) (hnd : nd ≤ 800) (_hs : s.size ≤ 100) (hD : ∀ j, j < nd → w.cell? ⟨b, j, none⟩ = some (.int .u8 (D j))) :
    Calls Tryz.prog 130 #[.slice (some ⟨b, 0, none⟩) nd cap, .string s] w fun e w' => e = .returned (.bool (pfx D (bt s) nd s.size s.size)) ∧ ∃ n, w' = w.drewN n := by
  have hb := get_bt s
  have HD := Lib.hid hD
  clear hD
  obtain ⟨R, hR⟩ : ∃ R, R = pfx D (bt s) nd s.size s.size := ⟨_, rfl⟩
  rw [← hR]
  have HR := Lib.hid hR
  clear hR
  go_enter Tryz.func130, Tryz.ntmps130
  go_wp2_with fail
  go_loopw [5] (fun v5 wr => ∃ (i r j : Nat), i + r = s.size ∧ v5 = .int .i64 i ∧ Hid (R = pfx D (bt s) nd s.size r) ∧ wr = w.drewN j) (fun v5 _ => (s.size - (intOf v5).toNat))
  case atStart => exact ⟨0, s.size, 0, by omega, rfl, HR, rfl⟩
  case round =>
    obtain ⟨i, r, j, hir, rfl, hr, rfl⟩ := hrel
    clear HR
    by_cases h1 : i < s.size
    · obtain ⟨r, rfl⟩ : ∃ r', r = r' + 1 := ⟨r - 1, by omega⟩
      have ei : s.size - (r + 1) = i := by omega
      have hr' := hr.out
      rw [pfx, ei] at hr'
      clear hr ei
      by_cases h2 : nd ≤ i
      · rw [if_pos h2] at hr'
        have H := Lib.hid hr'
        clear hr'
        go_wp2_with fail
        go_ret
        exact ⟨by rw [H.out]; rfl, _, rfl⟩
      · rw [if_neg h2] at hr'
        have hc := HD.out i (by omega)
        by_cases h3 : D i = bt s i
        · rw [if_pos h3] at hr'
          have H := Lib.hid hr'
          have t3 : (D i != bt s i) = false := by simp [h3]
          clear hr' h3
          go_wp2_with fail
          go_quiet (fail)
          go_wp2_with fail
          go_roundw
          case rel => exact ⟨i + 1, r, _, by omega, by go_num, H, rfl⟩
          case measure => simp [intOf]; omega
        · rw [if_neg h3] at hr'
          have H := Lib.hid hr'
          have t3 : (D i != bt s i) = true := by simp [h3]
          clear hr' h3
          go_wp2_with fail
          go_quiet (fail)
          go_wp2_with fail
          go_quiet (fail)
          go_wp2_with fail
          go_ret
          exact ⟨by rw [H.out]; rfl, _, by rw [World.drewN_drewN, World.drewN_drewN]⟩
    · have H := Lib.hid (show R = false by
        have e : r = 0 := by omega
        subst e
        rw [hr.out]; rfl)
      go_wp2_with fail
      go_ret
      exact ⟨by rw [H.out]; rfl, _, rfl⟩
end Go.Proofs.YtlmilelopajdiaaGreatDoor

/-
  Plain laws for the left shift of a decimal: prefixes and products.
-/
namespace Go.Proofs.YtlmilelopajdiaaGreatDoor
open Go.RowKit Go.PlainAid

theorem cmp_prefix (V F a b : Nat) (h : V / 10 ^ a < F / 10 ^ b) : V * 10 ^ b < F * 10 ^ a := by
  have pa : 0 < 10 ^ a := Nat.pow_pos (by omega)
  have pb : 0 < 10 ^ b := Nat.pow_pos (by omega)
  have h1 : V < (V / 10 ^ a + 1) * 10 ^ a := Nat.lt_mul_of_div_lt (Nat.lt_succ_self _) pa
  have h2 : F / 10 ^ b * 10 ^ b ≤ F := Nat.div_mul_le_self F _
  calc V * 10 ^ b < (V / 10 ^ a + 1) * 10 ^ a * 10 ^ b := Nat.mul_lt_mul_of_pos_right h1 pb
    _ ≤ F / 10 ^ b * 10 ^ a * 10 ^ b := Nat.mul_le_mul_right _ (Nat.mul_le_mul_right _ h)
    _ = F / 10 ^ b * 10 ^ b * 10 ^ a := by rw [Nat.mul_right_comm]
    _ ≤ F * 10 ^ a := Nat.mul_le_mul_right _ h2
theorem div_pow_step (V n i : Nat) (h : i < n) : V / 10 ^ (n - (i + 1)) / 10 = V / 10 ^ (n - i) := by
  rw [Nat.div_div_eq_div_mul, ← Nat.pow_succ, show (n - (i + 1)).succ = n - i by omega]
theorem dgi_at (V n i : Nat) (h : i < n) : dgi V n i = 48 + ((V / 10 ^ (n - (i + 1)) % 10 : Nat) : Int) := by
  unfold dgi; rw [show n - 1 - i = n - (i + 1) by omega]
theorem scale_lt (V F a b i nd L : Nat) (ha : nd = a + i) (hb : L = b + i) : V * 10 ^ b < F * 10 ^ a ↔ V * 10 ^ L < F * 10 ^ nd := by
  subst ha hb
  rw [Nat.pow_add, Nat.pow_add, ← Nat.mul_assoc, ← Nat.mul_assoc]
  exact (Nat.mul_lt_mul_right (Nat.pow_pos (by omega))).symm
/-- What prefixIsLessThan says: the first number, as a fraction, is less than the second. -/
theorem pfx_iff (D C : Nat → Int) (V F nd L : Nat) (hD : ∀ j, j < nd → D j = dgi V nd j) (hC : ∀ j, j < L → C j = dgi F L j) (hF : F % 10 ≠ 0) :
    ∀ r, r ≤ L → L - r ≤ nd → V / 10 ^ (nd - (L - r)) = F / 10 ^ r → (pfx D C nd L r = true ↔ V * 10 ^ L < F * 10 ^ nd) := by
  intro r
  induction r with
  | zero =>
    intro _ h2 h3
    simp only [Nat.sub_zero, Nat.pow_zero, Nat.div_one] at h2 h3
    simp only [pfx, Bool.false_eq_true, false_iff, Nat.not_lt]
    have h4 : V / 10 ^ (nd - L) * 10 ^ (nd - L) ≤ V := Nat.div_mul_le_self V _
    rw [h3] at h4
    calc F * 10 ^ nd = F * 10 ^ (nd - L) * 10 ^ L := by rw [Nat.mul_assoc, ← Nat.pow_add, show nd - L + L = nd by omega]
      _ ≤ V * 10 ^ L := Nat.mul_le_mul_right _ h4
  | succ r ih =>
    intro h1 h2 h3
    rw [pfx]
    by_cases hn : nd ≤ L - (r + 1)
    · rw [if_pos hn]
      have e : L - (r + 1) = nd := by omega
      rw [e, Nat.sub_self, Nat.pow_zero, Nat.div_one] at h3
      refine ⟨fun _ => ?_, fun _ => rfl⟩
      have hlt : V * 10 ^ (r + 1) < F := by
        have h4 : F / 10 ^ (r + 1) * 10 ^ (r + 1) ≤ F := Nat.div_mul_le_self F _
        rw [← h3] at h4
        rcases Nat.lt_or_ge (V * 10 ^ (r + 1)) F with h5 | h5
        · exact h5
        · exfalso
          have h6 : F = V * 10 ^ (r + 1) := Nat.le_antisymm h5 h4
          apply hF
          rw [h6, Nat.pow_succ, ← Nat.mul_assoc]
          exact Nat.mul_mod_left _ _
      calc V * 10 ^ L = V * 10 ^ (r + 1) * 10 ^ nd := by rw [Nat.mul_assoc, ← Nat.pow_add, show r + 1 + nd = L by omega]
        _ < F * 10 ^ nd := Nat.mul_lt_mul_of_pos_right hlt (Nat.pow_pos (by omega))
    · rw [if_neg hn]
      have hi : L - (r + 1) < nd := by omega
      have eL : L - (L - (r + 1) + 1) = r := by omega
      have eN : nd - (L - (r + 1) + 1) = nd - (L - r) := by omega
      have d1 := hD (L - (r + 1)) hi
      have d2 := hC (L - (r + 1)) (by omega)
      rw [dgi_at V nd _ hi, eN] at d1
      rw [dgi_at F L _ (by omega), eL] at d2
      have s1 := div_pow_step V nd (L - (r + 1)) hi
      rw [eN] at s1
      have s2 := div_pow_step F L (L - (r + 1)) (by omega)
      rw [eL, show L - (L - (r + 1)) = r + 1 by omega] at s2
      by_cases hd : D (L - (r + 1)) = C (L - (r + 1))
      · rw [if_pos hd]
        exact ih (by omega) (by omega) (by omega)
      · rw [if_neg hd]
        simp only [decide_eq_true_eq]
        rw [← scale_lt V F (nd - (L - r)) r (L - r) nd L (by omega) (by omega)]
        constructor
        · intro hlt
          exact cmp_prefix V F _ _ (by omega)
        · intro hlt
          rcases Int.lt_or_le (D (L - (r + 1))) (C (L - (r + 1))) with h5 | h5
          · exact h5
          · exfalso
            have := cmp_prefix F V r (nd - (L - r)) (by omega)
            omega
theorem bt_list (l : List UInt8) (j : Nat) (hj : j < l.length) : bt ⟨l.toArray⟩ j = ((l[j]).toNat : Int) := by
  unfold bt
  have h : j < (⟨l.toArray⟩ : ByteArray).size := by simpa [ByteArray.size] using hj
  rw [dif_pos h]
  simp [ByteArray.getElem_eq_getElem_data]
set_option maxRecDepth 100000 in
theorem cheat_tab : ∀ k : Fin 61, 1 ≤ k.val → (cheat k.val).2.length + (cheat k.val).1 = k.val + 1 ∧ 10 ^ ((cheat k.val).1 - 1) ≤ 2 ^ k.val ∧ 2 ^ k.val ≤ 10 ^ (cheat k.val).1 ∧ 1 ≤ (cheat k.val).1 ∧ (cheat k.val).1 ≤ 19 ∧ (cheat k.val).2.length ≤ 60 ∧ 5 ^ k.val < 10 ^ (cheat k.val).2.length ∧
    (cheat k.val).2.map (fun c => (c.toNat : Int)) = (List.range (cheat k.val).2.length).map (fun j => dgi (5 ^ k.val) (cheat k.val).2.length j) := by decide +kernel
def cheatD (k : Nat) : Nat := (cheat k).1
def cheatS (k : Nat) : ByteArray := ⟨(cheat k).2.toArray⟩
theorem cheatS_size (k : Nat) : (cheatS k).size = (cheat k).2.length := by simp [cheatS, ByteArray.size]
theorem cheat_digits (k : Nat) (h1 : 1 ≤ k) (h2 : k ≤ 60) (j : Nat) (hj : j < (cheatS k).size) : bt (cheatS k) j = dgi (5 ^ k) (cheatS k).size j := by
  rw [cheatS_size] at hj ⊢
  obtain ⟨_, _, _, _, _, _, _, h⟩ := cheat_tab ⟨k, by omega⟩ h1
  dsimp only at h
  have := congrArg (fun l => l[j]?) h
  simp only [List.getElem?_map, List.getElem?_eq_getElem hj, Option.map_some, List.getElem?_range hj, Option.some.injEq] at this
  unfold cheatS
  rw [bt_list _ j hj, this]
theorem five_pow_mod (k : Nat) (h : 1 ≤ k) : 5 ^ k % 10 ≠ 0 := by
  have : ∀ n, 5 ^ (n + 1) % 10 = 5 := by
    intro n
    induction n with
    | zero => rfl
    | succ n ih => rw [Nat.pow_succ]; omega
  obtain ⟨n, rfl⟩ : ∃ n, k = n + 1 := ⟨k - 1, by omega⟩
  rw [this n]; omega
/-- How many digits the left shift adds. -/
def deltaOf (D : Nat → Int) (nd k : Nat) : Nat := if pfx D (bt (cheatS k)) nd (cheatS k).size (cheatS k).size then cheatD k - 1 else cheatD k
theorem left_delta (D : Nat → Int) (V nd k : Nat) (h1 : 1 ≤ k) (h2 : k ≤ 60) (hn : 1 ≤ nd) (hD : ∀ j, j < nd → D j = dgi V nd j) (hV : V < 10 ^ nd) (hV0 : 10 ^ (nd - 1) ≤ V) :
    V * 2 ^ k < 10 ^ (nd + deltaOf D nd k) ∧ 10 ^ (nd + deltaOf D nd k - 1) ≤ V * 2 ^ k := by
  obtain ⟨t1, t2, t3, t4, t5, t6, t7, _⟩ := cheat_tab ⟨k, by omega⟩ h1
  dsimp only at t1 t2 t3 t4 t5 t6 t7
  have hp := pfx_iff D (bt (cheatS k)) V (5 ^ k) nd (cheatS k).size hD (cheat_digits k h1 h2) (five_pow_mod k h1) (cheatS k).size (Nat.le_refl _) (by omega)
    (by rw [cheatS_size, Nat.sub_self, Nat.sub_zero, Nat.div_eq_of_lt hV, Nat.div_eq_of_lt t7])
  rw [cheatS_size] at hp
  generalize hL : (cheat k).2.length = L at *
  generalize hd0 : (cheat k).1 = d0 at *
  have hk : 5 ^ k * 2 ^ k = 10 ^ k := by rw [← Nat.mul_pow]
  have hkk : k = L + (d0 - 1) := by omega
  have pL : 0 < 10 ^ L := Nat.pow_pos (by omega)
  have p2 : 0 < 2 ^ k := Nat.pow_pos (by omega)
  have key : V * 10 ^ L < 5 ^ k * 10 ^ nd ↔ V * 2 ^ k < 10 ^ (nd + (d0 - 1)) := by
    have e1 : V * 10 ^ L < 5 ^ k * 10 ^ nd ↔ V * 10 ^ L * 2 ^ k < 5 ^ k * 10 ^ nd * 2 ^ k := (Nat.mul_lt_mul_right p2).symm
    have e2 : V * 2 ^ k < 10 ^ (nd + (d0 - 1)) ↔ V * 2 ^ k * 10 ^ L < 10 ^ (nd + (d0 - 1)) * 10 ^ L := (Nat.mul_lt_mul_right pL).symm
    rw [e1, e2]
    rw [Nat.mul_right_comm (5 ^ k), hk, Nat.mul_right_comm V]
    rw [← Nat.pow_add, ← Nat.pow_add, show nd + (d0 - 1) + L = k + nd by omega]
  unfold deltaOf cheatD
  rw [cheatS_size, hL, hd0]
  by_cases hx : pfx D (bt (cheatS k)) nd L L = true
  · rw [if_pos hx]
    refine ⟨key.1 (hp.1 hx), ?_⟩
    have h5 : 10 ^ (nd - 1) * 10 ^ (d0 - 1) ≤ V * 2 ^ k := Nat.mul_le_mul hV0 t2
    rw [← Nat.pow_add] at h5
    rwa [show nd + (d0 - 1) - 1 = nd - 1 + (d0 - 1) by omega]
  · rw [if_neg hx]
    constructor
    · have h5 : V * 2 ^ k < 10 ^ nd * 2 ^ k := Nat.mul_lt_mul_of_pos_right hV p2
      have h6 : 10 ^ nd * 2 ^ k ≤ 10 ^ nd * 10 ^ d0 := Nat.mul_le_mul_left _ t3
      rw [Nat.pow_add]; omega
    · have h5 : ¬ V * 2 ^ k < 10 ^ (nd + (d0 - 1)) := fun h => hx (hp.2 (key.2 h))
      rw [show nd + d0 - 1 = nd + (d0 - 1) by omega]; omega
/-- One round of the left shift. -/
theorem ls_carry (V k t d n x : Nat) (hn : n = V % 10 ^ t * 2 ^ k / 10 ^ t) (hd : d = V / 10 ^ t % 10) (hx : x = d * 2 ^ k) :
    (n + x) / 10 = V % 10 ^ (t + 1) * 2 ^ k / 10 ^ (t + 1) ∧ (n + x) % 10 = V * 2 ^ k / 10 ^ t % 10 := by
  have pt : 0 < 10 ^ t := Nat.pow_pos (by omega)
  have e1 : V % 10 ^ (t + 1) * 2 ^ k / 10 ^ t = n + x := by
    rw [Nat.mod_pow_succ, ← hd, Nat.add_mul, hn, hx, Nat.mul_assoc, Nat.add_mul_div_left _ _ pt]
  have e2 : V * 2 ^ k / 10 ^ t = (n + x) + 10 * (V / 10 ^ (t + 1) * 2 ^ k) := by
    have h : V * 2 ^ k = V % 10 ^ (t + 1) * 2 ^ k + 10 ^ t * (10 * (V / 10 ^ (t + 1) * 2 ^ k)) := by
      have h' : V = V % 10 ^ (t + 1) + 10 ^ (t + 1) * (V / 10 ^ (t + 1)) := (Nat.mod_add_div V (10 ^ (t + 1))).symm
      calc V * 2 ^ k = (V % 10 ^ (t + 1) + 10 ^ (t + 1) * (V / 10 ^ (t + 1))) * 2 ^ k := by rw [← h']
        _ = _ := by rw [Nat.add_mul, Nat.pow_succ]; simp only [Nat.mul_assoc]
    rw [h, Nat.add_mul_div_left _ _ pt, e1]
  constructor
  · rw [Nat.pow_succ (n := 10) (m := t), ← Nat.div_div_eq_div_mul, ← Nat.pow_succ, e1]
  · rw [e2]; omega
end Go.Proofs.YtlmilelopajdiaaGreatDoor
