/-
  ftoa64: the plain facts on a number's parts.
-/
import Derived.Test.YtlmilelopajdiaaGreatDoorUC0
import Derived.Laws.Externs
import Derived.Lib.BitFns
namespace Go.Proofs.YtlmilelopajdiaaGreatDoor
open Go.RowKit

theorem float64bits_run (b : Nat) (w : World) : Sem.run Tryz.prog (callFunc 90 #[.float .f64 b]) w = .ok (.value (.int .u64 b)) w := by
  rw [run_callFunc_extern Tryz.func90 (by kernel_rfl) (by kernel_rfl) (by kernel_rfl) (e := Extern.MathFloatBits.float64bits) (by kernel_rfl)]
  rfl
/-- A finite number's parts. -/
structure Fl (b mant : Nat) (exp : Int) : Prop where
  b1 : b < 18446744073709551616
  way : (b / 4503599627370496 % 2048 = 0 ∧ mant = b % 4503599627370496 ∧ exp = -1022) ∨
    (b / 4503599627370496 % 2048 ≠ 0 ∧ b / 4503599627370496 % 2048 ≠ 2047 ∧ mant = b % 4503599627370496 + 4503599627370496 ∧ exp = ((b / 4503599627370496 % 2048 : Nat) : Int) - 1023)
def sg (b : Nat) : Bool := ((b : Int) / 9223372036854775808 != 0)
/-- The text of a number, as it is made. -/
def FtOk (b : Nat) (prec : Int) (l : List Int) : Prop := ∀ (B : Nat) (v : Value) (W : World), W.ownsRow B 5 1 v 0 [] → Tabs B W → B ≤ W.heap.size →
  Calls Tryz.prog 85 #[v, .float .f64 b, .int .u8 102, .int .i64 prec] W fun e w' => ∃ v', e = .returned v' ∧ w'.ownsRow B 5 1 v' l.length (l.map (Value.int .u8)) ∧ Below B W w'

theorem and_2047 (b : Nat) (hb : b < 18446744073709551616) : bits .and .i64 ((b : Int) / 4503599627370496) 2047 = ((b / 4503599627370496 % 2048 : Nat) : Int) := by
  have := bits_mask .i64 63 (by decide) (fun n h0 h1 => by rw [IntKind.wrap_i64]; omega) 11 (by decide) ((b : Int) / 4503599627370496) (by omega) (by omega)
  rw [show ((2 : Int) ^ 11 - 1) = 2047 by decide, show (2 : Int) ^ 11 = 2048 by decide] at this
  rw [this]; omega
theorem and_52 (b : Nat) (hb : b < 18446744073709551616) : bits .and .u64 (b : Int) 4503599627370495 = ((b % 4503599627370496 : Nat) : Int) := by
  have := bits_mask .u64 64 (by decide) (fun n h0 h1 => by rw [IntKind.wrap_u64]; omega) 52 (by decide) (b : Int) (by omega) (by omega)
  rw [show ((2 : Int) ^ 52 - 1) = 4503599627370495 by decide, show (2 : Int) ^ 52 = 4503599627370496 by decide] at this
  rw [this]; omega
theorem or_52 (m : Nat) (hm : m < 4503599627370496) : bits .or .u64 (m : Int) 4503599627370496 = ((m + 4503599627370496 : Nat) : Int) := by
  rw [or_u64 _ _ (by omega) (by omega) (by omega) (by omega)]
  unfold orr
  rw [show (4503599627370496 : Int).toNat = 2 ^ 52 by decide, Int.toNat_natCast, Nat.or_comm, nat_join 52 (2 ^ 52) m (by decide) (by simpa using hm)]
  omega

theorem bitLen_bounds (x : Nat) (h0 : x ≠ 0) (h : x < 18446744073709551616) : 1 ≤ Lib.bitLen x ∧ Lib.bitLen x ≤ 64 ∧ 2 ^ (Lib.bitLen x - 1) ≤ x ∧ x < 2 ^ Lib.bitLen x := by
  have h1 := Lib.bitLenAux_bounds 64 x (by simpa using h) h0
  exact ⟨h1.1, Lib.bitLen_le x 64 (by decide) (by simpa using h), h1.2⟩
/-- The mantissa, shifted to the top. -/
theorem norm_ex (mant : Nat) (h0 : 1 ≤ mant) (h1 : mant < 9007199254740992) : ∃ s m : Nat, (64 : Int) - (Lib.bitLen mant : Int) = (s : Int) ∧ 11 ≤ s ∧ s ≤ 63 ∧ m = mant * 2 ^ s ∧ 9223372036854775808 ≤ m ∧ m < 18446744073709551616 ∧ (4503599627370496 ≤ mant → s = 11) ∧ (mant < 4503599627370496 → 12 ≤ s) := by
  obtain ⟨b1, b2, b3, b4⟩ := bitLen_bounds mant (by omega) (by omega)
  have hL53 : Lib.bitLen mant ≤ 53 := by
    rcases Nat.lt_or_ge 53 (Lib.bitLen mant) with h | h
    · have : 2 ^ 53 ≤ 2 ^ (Lib.bitLen mant - 1) := Nat.pow_le_pow_right (by omega) (by omega)
      have : (2 : Nat) ^ 53 = 9007199254740992 := by decide
      omega
    · exact h
  refine ⟨64 - Lib.bitLen mant, _, by omega, by omega, by omega, rfl, ?_, ?_, ?_, ?_⟩
  · have h2 : 2 ^ (Lib.bitLen mant - 1) * 2 ^ (64 - Lib.bitLen mant) ≤ mant * 2 ^ (64 - Lib.bitLen mant) := Nat.mul_le_mul_right _ b3
    rw [← Nat.pow_add, show Lib.bitLen mant - 1 + (64 - Lib.bitLen mant) = 63 by omega] at h2
    simpa using h2
  · have h2 : mant * 2 ^ (64 - Lib.bitLen mant) < 2 ^ Lib.bitLen mant * 2 ^ (64 - Lib.bitLen mant) := Nat.mul_lt_mul_of_pos_right b4 (Nat.pow_pos (by omega))
    rw [← Nat.pow_add, show Lib.bitLen mant + (64 - Lib.bitLen mant) = 64 by omega] at h2
    simpa using h2
  · intro h
    rcases Nat.lt_or_ge (Lib.bitLen mant) 53 with h' | h'
    · have : 2 ^ Lib.bitLen mant ≤ 2 ^ 52 := Nat.pow_le_pow_right (by omega) (by omega)
      have : (2 : Nat) ^ 52 = 4503599627370496 := by decide
      omega
    · omega
  · intro h
    rcases Nat.lt_or_ge 52 (Lib.bitLen mant) with h' | h'
    · have : 2 ^ 52 ≤ 2 ^ (Lib.bitLen mant - 1) := Nat.pow_le_pow_right (by omega) (by omega)
      have : (2 : Nat) ^ 52 = 4503599627370496 := by decide
      omega
    · omega
theorem Fl.bounds {b mant : Nat} {exp : Int} (h : Fl b mant exp) : mant < 9007199254740992 ∧ -1022 ≤ exp ∧ exp ≤ 1023 ∧ (mant < 4503599627370496 → exp = -1022) := by
  obtain ⟨_, ⟨h1, h2, h3⟩ | ⟨h1, h2, h3, h4⟩⟩ := h <;> omega
theorem sf_par {b mant : Nat} {exp : Int} (h : Fl b mant exp) (_h0 : 1 ≤ mant) (s m : Nat) (hs : 11 ≤ s) (hs1 : s ≤ 63) (hm : m = mant * 2 ^ s) (m0 : 9223372036854775808 ≤ m) (m1 : m < 18446744073709551616) (hn : 4503599627370496 ≤ mant → s = 11)
    (hn2 : mant < 4503599627370496 → 12 ≤ s) : ∃ P mn mx od, SfPar (m : Int) (exp + 1023 + -1023 - s - 52) P mn mx od := by
  obtain ⟨h1, h2, h3, h4⟩ := h.bounds
  rcases Nat.lt_or_ge mant 4503599627370496 with hk | hk
  · refine sfPar_small _ _ s (hn2 hk) hs1 ?_ (by omega) (by omega) (by rw [h4 hk]; omega)
    rw [hm]; push_cast
    exact Int.mul_emod_left _ _
  · have hs' := hn hk
    subst hs'
    refine sfPar_normal _ _ ?_ (by omega) (by omega) (by omega) (by omega)
    rw [show (2 : Nat) ^ 11 = 2048 by decide] at hm
    omega
/-- The shift of the machine. -/
theorem shl_norm (mant s m : Nat) (hm : m = mant * 2 ^ s) (m1 : m < 18446744073709551616) : IntKind.u64.wrap ((mant : Int) * 2 ^ s) = (m : Int) := by
  rw [hm] at m1
  have : (mant : Int) * 2 ^ s = ((mant * 2 ^ s : Nat) : Int) := by rw [Int.natCast_mul, Int.natCast_pow]; rfl
  rw [this, hm, IntKind.wrap_u64]
  clear this
  generalize mant * 2 ^ s = q at *
  omega
end Go.Proofs.YtlmilelopajdiaaGreatDoor
