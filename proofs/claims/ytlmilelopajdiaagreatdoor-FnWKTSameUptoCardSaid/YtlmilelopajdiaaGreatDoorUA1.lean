/-
  The scaling functions of internal/strconv: prescale, uscale.
-/
import Derived.Test.YtlmilelopajdiaaGreatDoorUA0
import Derived.Test.YtlmilelopajdiaaGreatDoorUShelf
import Derived.Laws.ShiftsVarLaws
import GoSem.PinnedTables
namespace Go.Proofs.YtlmilelopajdiaaGreatDoor
open Go.RowKit

/-- The upper and the lower half of a product of two 64-bit numbers. -/
def mhi (x y : Int) : Int := x * y / 18446744073709551616
def mlo (x y : Int) : Int := x * y % 18446744073709551616
theorem mlo_bd (x y : Int) : 0 ≤ mlo x y ∧ mlo x y ≤ 18446744073709551615 := by unfold mlo; omega
theorem mhi_bd (x y : Int) (hx : 0 ≤ x) (hx1 : x ≤ 18446744073709551615) (hy : 0 ≤ y) (hy1 : y ≤ 18446744073709551615) : 0 ≤ mhi x y ∧ mhi x y ≤ 18446744073709551614 := by
  have h1 : 0 ≤ x * y := Int.mul_nonneg hx hy
  have h2 : x * y ≤ 18446744073709551615 * 18446744073709551615 := Int.mul_le_mul hx1 hy1 hy (by omega)
  unfold mhi; omega
theorem mul64 (x y : Int) (hx : 0 ≤ x) (hx1 : x ≤ 18446744073709551615) (hy : 0 ≤ y) (hy1 : y ≤ 18446744073709551615) (w : World) :
    Calls Tryz.prog 127 #[.int .u64 x, .int .u64 y] w fun e w' => e = .returned (.tuple #[.int .u64 (mhi x y), .int .u64 (mlo x y)]) ∧ w = w' := by
  obtain ⟨a, rfl⟩ := Int.eq_ofNat_of_zero_le hx
  obtain ⟨b, rfl⟩ := Int.eq_ofNat_of_zero_le hy
  exact (Tryz.bits_Mul64 a b (by omega) (by omega) w).mono fun _ _ ⟨he, hw⟩ => ⟨by rw [he]; unfold mhi mlo; simp, hw.symm⟩

def uscTest (x hi : Int) (s : Nat) : Bool := IntKind.u64.wrap (mhi x hi / 2 ^ s * 2 ^ s) != mhi x hi
def usc (x hi lo : Int) (s : Nat) : Int :=
  if uscTest x hi s then orr (mhi x hi / 2 ^ s) 1
  else orr (IntKind.u64.wrap (mhi x hi - bi (decide (mlo x hi < mhi x lo))) / 2 ^ s) (bi (decide (1 < IntKind.u64.wrap (mlo x hi - mhi x lo))))
theorem div_pow_bd (a : Int) (s : Nat) (h0 : 0 ≤ a) : 0 ≤ a / 2 ^ s ∧ a / 2 ^ s ≤ a :=
  ⟨Int.ediv_nonneg h0 (Int.le_of_lt (Int.pow_pos (by omega))), Int.ediv_le_self _ h0⟩
theorem wrap_u64_bd (n : Int) : 0 ≤ IntKind.u64.wrap n ∧ IntKind.u64.wrap n ≤ 18446744073709551615 := by rw [IntKind.wrap_u64]; omega
theorem usc_bd (x hi lo : Int) (s : Nat) (hx : 0 ≤ x) (hx1 : x ≤ 18446744073709551615) (hy : 0 ≤ hi) (hy1 : hi ≤ 18446744073709551615) : 0 ≤ usc x hi lo s ∧ usc x hi lo s ≤ 18446744073709551615 := by
  have h1 := mhi_bd x hi hx hx1 hy hy1
  have h2 := div_pow_bd _ s h1.1
  have h3 := wrap_u64_bd (mhi x hi - bi (decide (mlo x hi < mhi x lo)))
  have h4 := div_pow_bd _ s h3.1
  have h5 := bi_bd (decide (1 < IntKind.u64.wrap (mlo x hi - mhi x lo)))
  unfold usc
  split
  · exact ⟨orr_nonneg _ _, orr_u64 _ _ (by omega) (by omega)⟩
  · exact ⟨orr_nonneg _ _, orr_u64 _ _ (by omega) (by omega)⟩
theorem mhi_ge (x hi : Int) (k : Int) (hx : 2 * k ≤ x) (hk : 0 ≤ k) (hh : 9223372036854775808 ≤ hi) : k ≤ mhi x hi := by
  unfold mhi
  have h1 : (2 * k) * 9223372036854775808 ≤ x * hi := Int.mul_le_mul hx hh (by omega) (by omega)
  omega
theorem wrap_u64_of (n : Int) (h0 : 0 ≤ n) (h1 : n ≤ 18446744073709551615) : IntKind.u64.wrap n = n := by rw [IntKind.wrap_u64]; omega
theorem div_mul_le (a : Int) (s : Nat) (_h0 : 0 ≤ a) : a / 2 ^ s * 2 ^ s ≤ a := Int.ediv_mul_le a (Int.ne_of_gt (Int.pow_pos (by omega)))
theorem pow2_split (s k : Nat) (h : k ≤ s) : (2 : Int) ^ s = 2 ^ k * 2 ^ (s - k) := by
  rw [← Int.pow_add]; congr 1; omega
theorem usc_facts (x hi lo : Int) (s : Nat) (hx : 2 ≤ x) (hx1 : x ≤ 18446744073709551615) (hy : 9223372036854775808 ≤ hi) (hy1 : hi ≤ 18446744073709551615) (hz : 0 ≤ lo) (hz1 : lo ≤ 18446744073709551615) (hs : 3 ≤ s) :
    1 ≤ usc x hi lo s ∧ usc x hi lo s ≤ 2305843009213693951 := by
  have h1 := mhi_bd x hi (by omega) hx1 (by omega) hy1
  have h1' := mhi_bd x lo (by omega) hx1 hz hz1
  have h2 := div_pow_bd _ s h1.1
  have hge := mhi_ge x hi 1 (by omega) (by omega) hy
  have hlo := mlo_bd x hi
  have hp : (0 : Int) < 2 ^ s := Int.pow_pos (by omega)
  have hp8 : (8 : Int) ≤ 2 ^ s := by
    rw [pow2_split s 3 hs]
    have : (0 : Int) < 2 ^ (s - 3) := Int.pow_pos (by omega)
    omega
  have hdiv : ∀ a : Int, 0 ≤ a → a ≤ 18446744073709551615 → a / 2 ^ s ≤ 2305843009213693951 := by
    intro a ha ha1
    refine Int.le_of_lt_add_one (Int.ediv_lt_of_lt_mul hp ?_)
    have : (2305843009213693951 + 1) * 8 ≤ ((2305843009213693951 : Int) + 1) * 2 ^ s := Int.mul_le_mul_of_nonneg_left hp8 (by omega)
    omega
  have hup : ∀ a b : Int, a ≤ 2305843009213693951 → b ≤ 1 → orr a b ≤ 2305843009213693951 := fun a b ha hb => by
    have := orr_lt a b 61 (by omega) (by omega); omega
  have hw := wrap_u64_bd (mhi x hi - bi (decide (mlo x hi < mhi x lo)))
  have hb1 := bi_bd (decide (1 < IntKind.u64.wrap (mlo x hi - mhi x lo)))
  unfold usc
  split
  · exact ⟨by have := orr_le' (mhi x hi / 2 ^ s) 1 (by omega); omega, hup _ _ (hdiv _ h1.1 (by omega)) (by omega)⟩
  · rename_i ht
    refine ⟨?_, hup _ _ (hdiv _ hw.1 hw.2) hb1.2⟩
    have hq : mhi x hi / 2 ^ s * 2 ^ s = mhi x hi := by
      have hle := div_mul_le (mhi x hi) s h1.1
      have h0 : 0 ≤ mhi x hi / 2 ^ s * 2 ^ s := Int.mul_nonneg h2.1 (by omega)
      unfold uscTest at ht
      rw [wrap_u64_of _ h0 (by omega)] at ht
      simpa using ht
    have hq1 : 1 ≤ mhi x hi / 2 ^ s := by
      rcases Int.lt_or_le (mhi x hi / 2 ^ s) 1 with hlt | hle
      · have : mhi x hi / 2 ^ s = 0 := by omega
        rw [this] at hq; omega
      · exact hle
    by_cases hc : mlo x hi < mhi x lo
    · have e2 : IntKind.u64.wrap (mlo x hi - mhi x lo) = mlo x hi - mhi x lo + 18446744073709551616 := by rw [IntKind.wrap_u64]; omega
      have e3 : bi (decide (1 < IntKind.u64.wrap (mlo x hi - mhi x lo))) = 1 := by rw [e2]; unfold bi; rw [if_pos (by simp; omega)]
      rw [e3]
      have := orr_le' (IntKind.u64.wrap (mhi x hi - bi (decide (mlo x hi < mhi x lo))) / 2 ^ s) 1 (by omega); omega
    · have e1 : bi (decide (mlo x hi < mhi x lo)) = 0 := by unfold bi; rw [if_neg (by simpa using hc)]
      rw [e1, Int.sub_zero, wrap_u64_of _ h1.1 (by omega)]
      have := orr_le (mhi x hi / 2 ^ s) (bi (decide (1 < IntKind.u64.wrap (mlo x hi - mhi x lo)))) h2.1; omega
theorem usc_ge3 (x hi lo : Int) (s : Nat) (hx : 9223372036854775808 ≤ x) (hx1 : x ≤ 18446744073709551615) (hy : 9223372036854775808 ≤ hi) (hy1 : hi ≤ 18446744073709551615) (hs : s ≤ 60) :
    3 ≤ usc x hi lo s := by
  have h1 := mhi_bd x hi (by omega) hx1 (by omega) hy1
  have hge := mhi_ge x hi 4611686018427387904 (by omega) (by omega) hy
  have hp : (0 : Int) < 2 ^ s := Int.pow_pos (by omega)
  have hp60 : (2 : Int) ^ s ≤ 1152921504606846976 := by
    have h := pow2_split 60 s hs
    have h' : (0 : Int) < 2 ^ (60 - s) := Int.pow_pos (by omega)
    have : (2 : Int) ^ s * 1 ≤ 2 ^ s * 2 ^ (60 - s) := Int.mul_le_mul_of_nonneg_left (by omega) (by omega)
    have e : (2 : Int) ^ 60 = 1152921504606846976 := by decide
    omega
  have hdiv : ∀ a : Int, 3 * 1152921504606846976 ≤ a → 3 ≤ a / 2 ^ s := by
    intro a ha
    refine (Int.le_ediv_iff_mul_le hp).2 ?_
    have : 3 * (2 : Int) ^ s ≤ 3 * 1152921504606846976 := Int.mul_le_mul_of_nonneg_left hp60 (by omega)
    omega
  have hb := bi_bd (decide (mlo x hi < mhi x lo))
  unfold usc
  split
  · have := hdiv (mhi x hi) (by omega)
    have := orr_le (mhi x hi / 2 ^ s) 1 (by omega); omega
  · have hw : IntKind.u64.wrap (mhi x hi - bi (decide (mlo x hi < mhi x lo))) = mhi x hi - bi (decide (mlo x hi < mhi x lo)) := wrap_u64_of _ (by omega) (by omega)
    have := hdiv (mhi x hi - bi (decide (mlo x hi < mhi x lo))) (by omega)
    rw [hw]
    have := orr_le ((mhi x hi - bi (decide (mlo x hi < mhi x lo))) / 2 ^ s) (bi (decide (1 < IntKind.u64.wrap (mlo x hi - mhi x lo)))) (by omega); omega
theorem uscale (x hi lo : Int) (s : Nat) (b : Nat) (w : World) (hx : 0 ≤ x) (hx1 : x ≤ 18446744073709551615) (hy : 0 ≤ hi) (hy1 : hi ≤ 18446744073709551615) (hz : 0 ≤ lo) (hz1 : lo ≤ 18446744073709551615) (hs : s < 64)
    (c0 : w.cell? ⟨b, 0, none⟩ = some (.int .u64 hi)) (c1 : w.cell? ⟨b, 1, none⟩ = some (.int .u64 lo)) (c2 : w.cell? ⟨b, 2, none⟩ = some (.int .i64 s)) :
    Calls Tryz.prog 110 #[.int .u64 x, .pointer (some ⟨b, 0, none⟩)] w fun e w' => e = .returned (.int .u64 (usc x hi lo s)) ∧ ∃ n, w' = w.drewN n := by
  have hm : bits .and .i64 (s : Int) 63 = (s : Int) := by
    rw [show (63 : Int) = 2 ^ 6 - 1 by decide, bits_mask .i64 63 (by decide) (fun n h0 h1 => by rw [IntKind.wrap_i64]; omega) 6 (by decide) s (by omega) (by omega)]
    omega
  have h1 := mhi_bd x hi hx hx1 hy hy1
  have h2 := div_pow_bd _ s h1.1
  have h1' := mhi_bd x lo hx hx1 hz hz1
  have h2' := mlo_bd x hi
  by_cases ht : uscTest x hi s = true
  · have hu : usc x hi lo s = orr (mhi x hi / 2 ^ s) 1 := by unfold usc; rw [if_pos ht]
    have hor := or_u64 (mhi x hi / 2 ^ s) 1 h2.1 (by omega) (by omega) (by omega)
    have HU := Lib.hid hu
    clear hu
    have ht' : (IntKind.u64.wrap (mhi x hi / 2 ^ s * 2 ^ s) != mhi x hi) = true := ht
    clear ht
    go_enter Tryz.func110, Tryz.ntmps110
    go_wp2_with fail
    refine (mul64 x hi hx hx1 hy hy1 _).mono ?_
    rintro e w' ⟨rfl, rfl⟩
    go_wp2_with fail
    go_ret
    exact ⟨by rw [HU.out]; rfl, 0, rfl⟩
  · have hu : usc x hi lo s = orr (IntKind.u64.wrap (mhi x hi - bi (decide (mlo x hi < mhi x lo))) / 2 ^ s) (bi (decide (1 < IntKind.u64.wrap (mlo x hi - mhi x lo)))) := by unfold usc; rw [if_neg ht]
    have h3 := wrap_u64_bd (mhi x hi - bi (decide (mlo x hi < mhi x lo)))
    have h4 := div_pow_bd _ s h3.1
    have h5 := bi_bd (decide (1 < IntKind.u64.wrap (mlo x hi - mhi x lo)))
    have hor := or_u64 (IntKind.u64.wrap (mhi x hi - bi (decide (mlo x hi < mhi x lo))) / 2 ^ s) (bi (decide (1 < IntKind.u64.wrap (mlo x hi - mhi x lo)))) h4.1 (by omega) (by omega) (by omega)
    have HU := Lib.hid (hu.trans hor.symm)
    clear hu hor
    have ht' : (IntKind.u64.wrap (mhi x hi / 2 ^ s * 2 ^ s) != mhi x hi) = false := by have h := ht; unfold uscTest at h; exact Bool.eq_false_iff.2 h
    clear ht
    go_enter Tryz.func110, Tryz.ntmps110
    go_wp2_with fail
    refine (mul64 x hi hx hx1 hy hy1 _).mono ?_
    rintro e w' ⟨rfl, rfl⟩
    go_wp2_with fail
    refine (mul64 x lo hx hx1 hz hz1 _).mono ?_
    rintro e w' ⟨rfl, rfl⟩
    go_wp2_with fail
    refine (bool2u64 _ _).mono ?_
    rintro e w' ⟨rfl, rfl⟩
    go_wp2_with fail
    go_quiet ((go_at_call 128; exact qs (bool2u64 _ _)))
    go_wp2_with fail
    go_ret
    exact ⟨by rw [HU.out]; rfl, _, rfl⟩
end Go.Proofs.YtlmilelopajdiaaGreatDoor

/-
  The library's tables as cells; prescale.
-/
namespace Go.Proofs.YtlmilelopajdiaaGreatDoor
open Go.RowKit

def p10row (p : Int) : Nat × Nat := (Go.Pinned.pow10Rows[(p + 348).toNat]?).getD (0, 0)
def phi (p : Int) : Int := ((p10row p).1 : Int)
def plo (p : Int) : Int := ((p10row p).2 : Int)
def cheat (k : Nat) : Nat × List UInt8 := (Go.Pinned.cheatRows[k]?).getD (0, [])
set_option maxRecDepth 100000 in
theorem p10_rows : Go.Pinned.pow10Rows.all (fun x => decide (9223372036854775808 ≤ x.1) && decide (x.1 ≤ 18446744073709551615) && decide (x.2 ≤ 18446744073709551615)) = true := by decide +kernel
theorem p10_len : Go.Pinned.pow10Rows.length = 696 := by decide +kernel
theorem p10_bd (p : Int) (h0 : -348 ≤ p) (h1 : p ≤ 347) : 9223372036854775808 ≤ phi p ∧ phi p ≤ 18446744073709551615 ∧ 0 ≤ plo p ∧ plo p ≤ 18446744073709551615 := by
  have hl : (p + 348).toNat < Go.Pinned.pow10Rows.length := by rw [p10_len]; omega
  have hm := List.all_eq_true.1 p10_rows _ (List.getElem_mem hl)
  simp only [Bool.and_eq_true, decide_eq_true_eq] at hm
  unfold phi plo p10row
  rw [List.getElem?_eq_getElem hl]
  simp only [Option.getD_some]
  omega
/-- What the package-level variables hold: facts on cells. -/
structure Tabs (B : Nat) (w : World) : Prop where
  lt : 6 ≤ B
  opt : w.cell? ⟨0, 0, none⟩ = some (.bool true)
  u10 : Lib.TabIs Tryz.prog w "internal/strconv.uint64pow10" .u64 Lib.pow10Tab
  p10 : ∀ i : Nat, i < 696 → w.cell? ⟨2, i * 2, none⟩ = some (.int .u64 (phi ((i : Int) - 348))) ∧ w.cell? ⟨2, i * 2 + 1, none⟩ = some (.int .u64 (plo ((i : Int) - 348)))
  cheats : ∃ (b o cap : Nat), b < B ∧ w.cell? ⟨3, 0, none⟩ = some (.slice (some ⟨b, o, none⟩) 61 cap) ∧ ∀ k : Nat, k < 61 →
    w.cell? ⟨b, o + k * 2, none⟩ = some (.int .i64 ((cheat k).1 : Int)) ∧ w.cell? ⟨b, o + k * 2 + 1, none⟩ = some (.string ⟨(cheat k).2.toArray⟩)

theorem Tabs.below {B : Nat} {w w' : World} (h : Tabs B w) (hb : Below B w w') : Tabs B w' := by
  obtain ⟨h0, h1, h2, h3, b, o, cap, h4, h5, h6⟩ := h
  refine ⟨h0, (hb.cell (by show 0 < B; omega)).trans h1, var?_below hb (g := 1) (by kernel_rfl) (by omega) h2, fun i hi => ?_, b, o, cap, h4, (hb.cell (by show 3 < B; omega)).trans h5, fun k hk => ?_⟩
  · exact ⟨(hb.cell (by show 2 < B; omega)).trans (h3 i hi).1, (hb.cell (by show 2 < B; omega)).trans (h3 i hi).2⟩
  · exact ⟨(hb.cell h4).trans (h6 k hk).1, (hb.cell h4).trans (h6 k hk).2⟩
theorem Tabs.mono {B B' : Nat} {w : World} (h : Tabs B w) (hB : B ≤ B') : Tabs B' w := by
  obtain ⟨h0, h1, h2, h3, b, o, cap, h4, r⟩ := h
  exact ⟨by omega, h1, h2, h3, b, o, cap, by omega, r⟩
theorem prescale (w : World) (e p lp : Int) (hp0 : -348 ≤ p) (hp1 : p ≤ 347) (he0 : -100000 ≤ e) (he1 : e ≤ 100000) (hl0 : -100000 ≤ lp) (hl1 : lp ≤ 100000)
    (hB : 2 < w.heap.size) (hT : ∀ i : Nat, i < 696 → w.cell? ⟨2, i * 2, none⟩ = some (.int .u64 (phi ((i : Int) - 348))) ∧ w.cell? ⟨2, i * 2 + 1, none⟩ = some (.int .u64 (plo ((i : Int) - 348)))) :
    Calls Tryz.prog 108 #[.pointer (some ⟨w.heap.size, 0, none⟩), .int .i64 e, .int .i64 p, .int .i64 lp] (w.alloc (.cells #[.int .u64 0, .int .u64 0, .int .i64 0] 187)) fun en w' =>
      en = .returned (.tuple #[]) ∧ w' = w.alloc (.cells #[.int .u64 (phi p), .int .u64 (plo p), .int .i64 (-(e + lp + 3))] 187) := by
  obtain ⟨i, hi⟩ : ∃ i : Nat, p = (i : Int) - 348 := ⟨(p + 348).toNat, by omega⟩
  subst hi
  obtain ⟨h1, h2⟩ := hT i (by omega)
  clear hT
  go_enter Tryz.func108, Tryz.ntmps108
  go_wp2_with fail
  go_end0
  exact ⟨rfl, rfl⟩
end Go.Proofs.YtlmilelopajdiaaGreatDoor

/-
  setDigits: the digits of a number laid into a buffer; how many are left without the zeros at the end.
-/
namespace Go.Proofs.YtlmilelopajdiaaGreatDoor
open Go.RowKit

/-- A row of bytes in block b: its first n cells. -/
structure BRow (w : World) (b : Nat) (D : Nat → Int) (n : Nat) : Prop where
  cell : ∀ j : Nat, j < n → w.cell? ⟨b, j, none⟩ = some (.int .u8 (D j))
  free : ∀ j : Nat, j < n → w.frozen? ⟨b, j, none⟩ = false
  ty : ∃ (cs : Array Value) (T : TypeId), w.heap[b]? = some (.cells cs T (0, 0)) ∧ T ≠ 5
/-- The digits of u, nd of them. -/
def dgi (u nd j : Nat) : Int := 48 + ((u / 10 ^ (nd - 1 - j) % 10 : Nat) : Int)
theorem dgi_bd (u nd j : Nat) : 48 ≤ dgi u nd j ∧ dgi u nd j ≤ 57 := by unfold dgi; omega
/-- How many are left without the zeros at the end. -/
def tz (D : Nat → Int) : Nat → Nat
  | 0 => 0
  | n + 1 => if D n = 48 then tz D n else n + 1
theorem tz_le (D : Nat → Int) : ∀ n, tz D n ≤ n
  | 0 => Nat.le_refl _
  | n + 1 => by have := tz_le D n; unfold tz; split <;> omega

theorem fmt_row (w : World) (b nd u : Nat) (D0 : Nat → Int) (hD0 : ∀ j, j < nd → 0 ≤ D0 j ∧ D0 j < 256) (h : BRow w b D0 nd) (cap : Nat) (hnd : nd ≤ 32) (hu : u < 10 ^ nd) (hu64 : u < 18446744073709551616) :
    Calls Tryz.prog 115 #[.slice (some ⟨b, 0, none⟩) nd cap, .int .u64 u] w fun e w' => e = .returned (.tuple #[]) ∧ Below b w w' ∧ BRow w' b (dgi u nd) nd := by
  let d : Array UInt8 := Array.ofFn (n := nd) fun i => UInt8.ofNat (D0 i).toNat
  have hd : d.size = nd := by simp [d]
  have hdi : ∀ j, j < nd → ((d[j]!).toNat : Int) = D0 j := by
    intro j hj
    have h1 := hD0 j hj
    rw [getElem!_pos d j (by omega)]
    simp only [d, Array.getElem_ofFn, UInt8.toNat_ofNat']
    omega
  have hH : Sort.Holds (fun (b : UInt8) => Value.int .u8 (b.toNat : Int)) w b 0 d := by
    intro j hj
    rw [hd] at hj
    simp only [Nat.zero_add]
    exact ⟨by rw [h.cell j hj, hdi j hj], h.free j hj⟩
  have := Tryz.internal_strconv_formatBase10 b 0 cap u d w hH (by rw [hd]; exact hu) hu64 (by rw [hd]; omega)
  rw [hd] at this
  refine this.mono ?_
  rintro e w' ⟨rfl, n, v', dk, rfl, hf⟩
  have hs := hf.size
  have hdk : ∀ j, j < nd → ((dk[j]!).toNat : Int) = dgi u nd j := by
    intro j hj
    rw [hf.done j (Nat.zero_le _) hj]
    unfold Lib.dg dgi
    rw [UInt8.toNat_ofNat']
    omega
  refine ⟨rfl, ⟨rfl, rfl, rfl, ?_, ?_⟩, ⟨?_, ?_, ?_⟩⟩
  · simp [World.drewN, Sort.putRow, Sort.mapBlock]
  · intro k hk
    simp only [World.drewN, Sort.putRow, Sort.mapBlock, Array.getElem?_modify]
    rw [if_neg (by omega)]
  · intro j hj
    have h1 := Sort.cell?_putRow (fun (b : UInt8) => Value.int .u8 (b.toNat : Int)) w b 0 d dk hH (by omega) j (by omega)
    simp only [Nat.zero_add] at h1
    rw [World.cell?_drewN, h1, hdk j hj]
  · intro j hj
    rw [World.frozen?_drewN, Sort.frozen?_putRow]
    exact h.free j hj
  · obtain ⟨cs, T, h1, h2⟩ := h.ty
    refine ⟨Sort.putCells (fun (b : UInt8) => Value.int .u8 (b.toNat : Int)) 0 dk cs, T, ?_, h2⟩
    simp [World.drewN, Sort.putRow, Sort.mapBlock, Sort.onCells, Array.getElem?_modify, h1]

theorem setDigits (w : World) (b N nd u : Nat) (p : Int) (D0 : Nat → Int) (hD0 : ∀ j, j < nd → 0 ≤ D0 j ∧ D0 j < 256) (h : BRow w b D0 nd) (hnd : nd ≤ N) (hN : N ≤ 32) (hu : u < 10 ^ nd) (hu64 : u < 18446744073709551616)
    (hp0 : -100000 ≤ p) (hp1 : p ≤ 100000) :
    Calls Tryz.prog 96 #[.slice (some ⟨b, 0, none⟩) N N, .int .u64 u, .int .i64 p, .int .i64 nd] w fun e w' =>
      e = .returned (.tuple #[.int .i64 ((nd : Int) + p), .int .i64 (tz (dgi u nd) nd)]) ∧ Below b w w' ∧ BRow w' b (dgi u nd) nd := by
  have HF := Lib.hid fun w => fmt_row w b nd u D0 hD0
  have HF' : ∀ w, BRow w b D0 nd → ∀ cap : Nat, Calls Tryz.prog 115 #[.slice (some ⟨b, 0, none⟩) nd cap, .int .u64 u] w fun e w' => e = .returned (.tuple #[]) ∧ Below b w w' ∧ BRow w' b (dgi u nd) nd :=
    fun w h cap => HF.out w h cap (by omega) hu hu64
  clear HF
  generalize hDD : dgi u nd = D at *
  clear hDD hu hu64 hD0
  have HF := Lib.hid HF'
  clear HF'
  go_enter Tryz.func96, Tryz.ntmps96
  go_wp2_with fail
  refine (HF.out w h _).mono ?_
  rintro e w1 ⟨rfl, hb1, hr1⟩
  clear HF h
  go_wp2_with fail
  have HR := Lib.hid hr1.cell
  go_loop [3] (fun t => ∃ k : Nat, k ≤ nd ∧ t = .int .i64 k ∧ Hid (tz D k = tz D nd)) (fun t => (intOf t).toNat)
  case atStart => exact ⟨nd, Nat.le_refl _, rfl, Lib.hid rfl⟩
  case round =>
    obtain ⟨k, hk, rfl, ht⟩ := hrel
    by_cases hk0 : k ≤ 0
    · have hn : Hid (k = tz D nd) := Lib.hid (by rw [← ht.out]; have := tz_le D k; omega)
      clear ht
      go_wp2_with fail
      go_ret2
      exact ⟨by rw [← hn.out]; rfl, hb1, hr1⟩
    · obtain ⟨m, rfl⟩ : ∃ m, k = m + 1 := ⟨k - 1, by omega⟩
      have hc := HR.out m (by omega)
      by_cases h48 : D m = 48
      · have h1 : (D m == 48) = true := by simp [h48]
        have hn : Hid (tz D m = tz D nd) := Lib.hid (by rw [← ht.out, tz, if_pos h48])
        clear h48
        go_wp2_with fail
        go_round
        case rel => exact ⟨m, by omega, by go_num, hn⟩
        case measure => simp [intOf]
      · have h1 : (D m == 48) = false := by simp [h48]
        have hn : Hid (m + 1 = tz D nd) := Lib.hid (by rw [← ht.out, tz, if_neg h48])
        clear h48
        go_wp2_with fail
        go_ret2
        exact ⟨by rw [← hn.out]; rfl, hb1, hr1⟩
end Go.Proofs.YtlmilelopajdiaaGreatDoor
