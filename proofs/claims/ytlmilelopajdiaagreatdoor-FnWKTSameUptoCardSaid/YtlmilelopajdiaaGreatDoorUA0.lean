/-
  Small functions of internal/strconv: what each returns; the world is as it was.
-/
import Derived.Test.YtlmilelopajdiaaGreatDoorProg
import Derived.WalkKit
import Derived.WalkSpells
import Derived.WalkLawsBesides
import Derived.Handy
import Derived.Deep.QuietTactic
import Derived.BigQuiet
import Derived.Lib.Hide
import Derived.Laws.BitsAllLaws
namespace Go.Proofs.YtlmilelopajdiaaGreatDoor
open Go.RowKit

def bi (b : Bool) : Int := if b then 1 else 0
theorem bi_bd (b : Bool) : 0 ≤ bi b ∧ bi b ≤ 1 := by cases b <;> decide
/-- A callee that leaves the world alone, in a region that draws. -/
theorem qs {P : Program} {f : FuncId} {args : Array Value} {w : World} {n : Nat} {v : Value}
    (h : Calls P f args (w.drewN n) fun e w' => e = .returned v ∧ w.drewN n = w') : Calls P f args (w.drewN n) fun e w'' => e = .returned v ∧ ∃ m, w'' = w.drewN m :=
  h.mono fun _ _ ⟨he, hm⟩ => ⟨he, n, hm.symm⟩
theorem bool2int (b : Bool) (w : World) : Calls Tryz.prog 116 #[.bool b] w fun e w' => e = .returned (.int .i64 (bi b)) ∧ w = w' := by
  cases b <;> (go_enter Tryz.func116, Tryz.ntmps116; go_wp2; go_ret; exact ⟨rfl, rfl⟩)
theorem bool2u64 (b : Bool) (w : World) : Calls Tryz.prog 128 #[.bool b] w fun e w' => e = .returned (.int .u64 (bi b)) ∧ w = w' := by
  cases b <;> (go_enter Tryz.func128, Tryz.ntmps128; go_wp2; go_ret; exact ⟨rfl, rfl⟩)
theorem bool2un (b : Bool) (w : World) : Calls Tryz.prog 129 #[.bool b] w fun e w' => e = .returned (.int .u64 (bi b)) ∧ w = w' := by
  cases b <;> (go_enter Tryz.func129, Tryz.ntmps129; go_wp2; go_ret; exact ⟨rfl, rfl⟩)
def lg10 (x : Int) : Int := x * 78913 / 262144
def lp (x : Int) : Int := x * 108853 / 32768
def skw (x : Int) : Int := (x * 631305 - 261663) / 2097152
theorem log10Pow2 (x : Int) (h0 : -100000 ≤ x) (h1 : x ≤ 100000) (w : World) : Calls Tryz.prog 98 #[.int .i64 x] w fun e w' => e = .returned (.int .i64 (lg10 x)) ∧ w = w' := by
  go_enter Tryz.func98, Tryz.ntmps98
  go_wp2
  go_ret
  exact ⟨rfl, rfl⟩
theorem log2Pow10 (x : Int) (h0 : -100000 ≤ x) (h1 : x ≤ 100000) (w : World) : Calls Tryz.prog 109 #[.int .i64 x] w fun e w' => e = .returned (.int .i64 (lp x)) ∧ w = w' := by
  go_enter Tryz.func109, Tryz.ntmps109
  go_wp2
  go_ret
  exact ⟨rfl, rfl⟩
theorem skewed (x : Int) (h0 : -100000 ≤ x) (h1 : x ≤ 100000) (w : World) : Calls Tryz.prog 107 #[.int .i64 x] w fun e w' => e = .returned (.int .i64 (skw x)) ∧ w = w' := by
  go_enter Tryz.func107, Tryz.ntmps107
  go_wp2
  go_ret
  exact ⟨rfl, rfl⟩
theorem unFloor (x : Int) (h0 : 0 ≤ x) (h1 : x ≤ 18446744073709551615) (w : World) : Calls Tryz.prog 113 #[.int .u64 x] w fun e w' => e = .returned (.int .u64 (x / 4)) ∧ w = w' := by
  go_enter Tryz.func113, Tryz.ntmps113
  go_wp2
  go_ret
  exact ⟨rfl, rfl⟩
theorem unCeil (x : Int) (h0 : 0 ≤ x) (h1 : x ≤ 18446744073709551600) (w : World) : Calls Tryz.prog 112 #[.int .u64 x] w fun e w' => e = .returned (.int .u64 ((x + 3) / 4)) ∧ w = w' := by
  go_enter Tryz.func112, Tryz.ntmps112
  go_wp2
  go_ret
  exact ⟨rfl, rfl⟩
theorem unRound (x : Int) (h0 : 0 ≤ x) (h1 : x ≤ 18446744073709551600) (w : World) : Calls Tryz.prog 114 #[.int .u64 x] w fun e w' => e = .returned (.int .u64 ((x + 1 + x / 4 % 2) / 4)) ∧ w = w' := by
  have hb := and_one_u64 (x / 4) (by omega) (by omega)
  go_enter Tryz.func114, Tryz.ntmps114
  go_wp2
  go_ret
  exact ⟨by simp, rfl⟩
theorem unNudge (x d : Int) (h0 : 0 ≤ x) (h1 : x ≤ 18446744073709551600) (hd0 : -1 ≤ d) (hd1 : d ≤ 1) (hx : 0 ≤ x + d) (w : World) : Calls Tryz.prog 111 #[.int .u64 x, .int .i64 d] w fun e w' => e = .returned (.int .u64 (x + d)) ∧ w = w' := by
  go_enter Tryz.func111, Tryz.ntmps111
  go_wp2
  go_ret
  exact ⟨by simp; simp only [IntKind.wrap_u64]; omega, rfl⟩
theorem unmin (x : Int) (h0 : 1 ≤ x) (h1 : x ≤ 4000000000000000000) (w : World) : Calls Tryz.prog 117 #[.int .u64 x] w fun e w' => e = .returned (.int .u64 (x * 4 - 2)) ∧ w = w' := by
  go_enter Tryz.func117, Tryz.ntmps117
  go_wp2
  go_ret
  exact ⟨rfl, rfl⟩
def orr (a b : Int) : Int := ((a.toNat ||| b.toNat : Nat) : Int)
theorem orr_nonneg (a b : Int) : 0 ≤ orr a b := Int.natCast_nonneg _
theorem orr_le (a b : Int) (h0 : 0 ≤ a) : a ≤ orr a b := by
  have := Nat.left_le_or (n := a.toNat) (m := b.toNat); unfold orr; omega
theorem orr_le' (a b : Int) (h0 : 0 ≤ b) : b ≤ orr a b := by
  have := Nat.right_le_or (n := a.toNat) (m := b.toNat); unfold orr; omega
theorem orr_lt (a b : Int) (k : Nat) (ha : a < 2 ^ k) (hb : b < 2 ^ k) : orr a b < 2 ^ k := by
  have h1 : a.toNat < 2 ^ k := by have : (0 : Int) < 2 ^ k := Int.pow_pos (by omega); have : ((2 ^ k : Nat) : Int) = 2 ^ k := by simp
                                  omega
  have h2 : b.toNat < 2 ^ k := by have : (0 : Int) < 2 ^ k := Int.pow_pos (by omega); have : ((2 ^ k : Nat) : Int) = 2 ^ k := by simp
                                  omega
  have h := Nat.or_lt_two_pow h1 h2
  unfold orr
  have : ((2 ^ k : Nat) : Int) = 2 ^ k := by simp
  omega
def undiv (u d : Int) : Int := orr (orr (u / d) (u % 2)) (bi (u % d != 0))
theorem or_u64 (a b : Int) (h1 : 0 ≤ a) (h2 : a ≤ 18446744073709551615) (h3 : 0 ≤ b) (h4 : b ≤ 18446744073709551615) : bits .or .u64 a b = orr a b := u64_or a b h1 (by omega) h3 (by omega)
theorem orr_u64 (a b : Int) (h2 : a ≤ 18446744073709551615) (h4 : b ≤ 18446744073709551615) : orr a b ≤ 18446744073709551615 := by
  have := orr_lt a b 64 (by omega) (by omega); omega
theorem undiv_bd (u d : Int) (h0 : 0 ≤ u) (h1 : u ≤ 18446744073709551615) (_hd : 1 ≤ d) : 0 ≤ undiv u d ∧ undiv u d ≤ 18446744073709551615 := by
  have h2 : u / d ≤ u := Int.ediv_le_self d h0
  have := bi_bd (u % d != 0)
  exact ⟨orr_nonneg _ _, orr_u64 _ _ (orr_u64 _ _ (by omega) (by omega)) (by omega)⟩
theorem unDiv (u d : Int) (h0 : 0 ≤ u) (h1 : u ≤ 18446744073709551615) (hd : 1 ≤ d) (w : World) :
    Calls Tryz.prog 118 #[.int .u64 u, .int .u64 d] w fun e w' => e = .returned (.int .u64 (undiv u d)) ∧ ∃ n, w' = w.drewN n := by
  have h2 : u / d ≤ u := Int.ediv_le_self d h0
  have h3 : 0 ≤ u / d := Int.ediv_nonneg h0 (by omega)
  have hb := bi_bd (u % d != 0)
  have fin : bits .or .u64 (bits .or .u64 (u / d) (bits .and .u64 u 1)) (bi (u % d != 0)) = undiv u d := by
    rw [and_one_u64 u h0 h1, or_u64 (u / d) (u % 2) h3 (by omega) (by omega) (by omega), or_u64 _ _ (orr_nonneg _ _) (orr_u64 _ _ (by omega) (by omega)) (by omega) (by omega)]; rfl
  have F := Lib.hid fin
  clear fin
  go_enter Tryz.func118, Tryz.ntmps118
  go_wp2
  go_quiet ((go_at_call 129; exact qs (bool2un _ _)))
  go_wp2
  go_ret
  exact ⟨by rw [← F.out]; rfl, _, rfl⟩
end Go.Proofs.YtlmilelopajdiaaGreatDoor
