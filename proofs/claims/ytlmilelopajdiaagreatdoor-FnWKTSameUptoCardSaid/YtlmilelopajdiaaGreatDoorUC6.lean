/-
  ftoa64 at numbers that are not finite; and at all numbers.
-/
import Derived.Test.YtlmilelopajdiaaGreatDoorUC3
import Derived.Test.YtlmilelopajdiaaGreatDoorUC4
import Derived.Test.YtlmilelopajdiaaGreatDoorUC5
import Derived.Lib.AppendStr
import Derived.Laws.IdiomStrings
import Derived.Lib.BufferRead
namespace Go.Proofs.YtlmilelopajdiaaGreatDoor
open Go.RowKit

/-- What a text of a number is: bytes, one point at the most. -/
structure LOk (l : List Int) : Prop where
  bd : ∀ c ∈ l, 0 ≤ c ∧ c < 256
  len : l.length ≤ 100000
  dots : l.count 46 ≤ 1

set_option maxRecDepth 100000 in
set_option maxHeartbeats 2000000 in
theorem ftoa_nan (b : Nat) (prec : Int) (b1 : b < 18446744073709551616) (hb : b / 4503599627370496 % 2048 = 2047) (hm : b % 4503599627370496 ≠ 0) : FtOk b prec [78, 97, 78] := by
  intro B v W how hT hBW
  obtain ⟨i0, hi, hz0, hz1, hz2⟩ := info_parts info5
  have hfb := float64bits_run b
  obtain ⟨ng, hng⟩ : ∃ ng : Bool, ((b : Int) / 9223372036854775808 != 0) = ng := ⟨_, rfl⟩
  obtain ⟨ef, hef⟩ : ∃ ef, ef = b / 4503599627370496 % 2048 := ⟨_, rfl⟩
  obtain ⟨mf, hmf⟩ : ∃ mf, mf = b % 4503599627370496 := ⟨_, rfl⟩
  have hE : bits .and .i64 ((b : Int) / 4503599627370496) 2047 = (ef : Int) := by rw [hef]; exact and_2047 b b1
  have hM : bits .and .u64 (b : Int) 4503599627370495 = (mf : Int) := by rw [hmf]; exact and_52 b b1
  have hef1 : ef ≤ 2047 := by omega
  have hmf1 : mf < 4503599627370496 := by omega
  rw [← hef] at hb
  have hne : ((ef : Int) == 2047) = true := by rw [beq_iff_eq]; omega
  have h1 : ((mf : Int) != 0) = true := by simp; omega
  clear hm
  clear hef hmf hb
  go_enter Tryz.func85, Tryz.ntmps85
  go_wp2_with fail
  go_quiet (fail)
  have hzz : ∀ j, Below W.heap.size W (W.drewN j) := fun j => ⟨rfl, rfl, rfl, Nat.le_refl _, fun _ _ => rfl⟩
  have how' : ∀ j, (W.drewN j).ownsRow B 5 1 v 0 [] := fun j => how
  go_wp2_with (at_builtin; refine Lib.wpList_append_own_string _ rfl _ _ 98 9 rfl B 5 i0 Tryz.underlying98 Tryz.underlying9 hi hz0 hz1 hz2 v 0 [] rfl (how' _) _ rfl ?c3 ?c4 ?c5 ?_)
  case c3 => decide
  case c4 => decide
  case c5 => exact hBW
  intro v' w2 hown hgrow _
  have hb2 := ((hzz _).mono hBW).trans ((Below.refl B _).grown hgrow hBW (fun k hk => (how.lt k hk).1))
  go_wp2_with fail
  go_ret
  exact ⟨_, rfl, hown, hb2⟩

set_option maxRecDepth 100000 in
set_option maxHeartbeats 2000000 in
theorem ftoa_ninf (b : Nat) (prec : Int) (b1 : b < 18446744073709551616) (hb : b / 4503599627370496 % 2048 = 2047) (hm : b % 4503599627370496 = 0) (hs : ((b : Int) / 9223372036854775808 != 0) = true) : FtOk b prec [45, 73, 110, 102] := by
  intro B v W how hT hBW
  obtain ⟨i0, hi, hz0, hz1, hz2⟩ := info_parts info5
  have hfb := float64bits_run b
  obtain ⟨ng, hng⟩ : ∃ ng : Bool, ((b : Int) / 9223372036854775808 != 0) = ng := ⟨_, rfl⟩
  obtain ⟨ef, hef⟩ : ∃ ef, ef = b / 4503599627370496 % 2048 := ⟨_, rfl⟩
  obtain ⟨mf, hmf⟩ : ∃ mf, mf = b % 4503599627370496 := ⟨_, rfl⟩
  have hE : bits .and .i64 ((b : Int) / 4503599627370496) 2047 = (ef : Int) := by rw [hef]; exact and_2047 b b1
  have hM : bits .and .u64 (b : Int) 4503599627370495 = (mf : Int) := by rw [hmf]; exact and_52 b b1
  have hef1 : ef ≤ 2047 := by omega
  have hmf1 : mf < 4503599627370496 := by omega
  rw [← hef] at hb
  have hne : ((ef : Int) == 2047) = true := by rw [beq_iff_eq]; omega
  have h1 : ((mf : Int) != 0) = false := by simp; omega
  obtain rfl : ng = true := by rw [← hng]; exact hs
  clear hm hs
  clear hef hmf hb
  go_enter Tryz.func85, Tryz.ntmps85
  go_wp2_with fail
  go_quiet (fail)
  have hzz : ∀ j, Below W.heap.size W (W.drewN j) := fun j => ⟨rfl, rfl, rfl, Nat.le_refl _, fun _ _ => rfl⟩
  have how' : ∀ j, (W.drewN j).ownsRow B 5 1 v 0 [] := fun j => how
  go_wp2_with (at_builtin; refine Lib.wpList_append_own_string _ rfl _ _ 98 9 rfl B 5 i0 Tryz.underlying98 Tryz.underlying9 hi hz0 hz1 hz2 v 0 [] rfl (how' _) _ rfl ?c3 ?c4 ?c5 ?_)
  case c3 => decide
  case c4 => decide
  case c5 => exact hBW
  intro v' w2 hown hgrow _
  have hb2 := ((hzz _).mono hBW).trans ((Below.refl B _).grown hgrow hBW (fun k hk => (how.lt k hk).1))
  go_wp2_with fail
  go_ret
  exact ⟨_, rfl, hown, hb2⟩

set_option maxRecDepth 100000 in
set_option maxHeartbeats 2000000 in
theorem ftoa_pinf (b : Nat) (prec : Int) (b1 : b < 18446744073709551616) (hb : b / 4503599627370496 % 2048 = 2047) (hm : b % 4503599627370496 = 0) (hs : ((b : Int) / 9223372036854775808 != 0) = false) : FtOk b prec [43, 73, 110, 102] := by
  intro B v W how hT hBW
  obtain ⟨i0, hi, hz0, hz1, hz2⟩ := info_parts info5
  have hfb := float64bits_run b
  obtain ⟨ng, hng⟩ : ∃ ng : Bool, ((b : Int) / 9223372036854775808 != 0) = ng := ⟨_, rfl⟩
  obtain ⟨ef, hef⟩ : ∃ ef, ef = b / 4503599627370496 % 2048 := ⟨_, rfl⟩
  obtain ⟨mf, hmf⟩ : ∃ mf, mf = b % 4503599627370496 := ⟨_, rfl⟩
  have hE : bits .and .i64 ((b : Int) / 4503599627370496) 2047 = (ef : Int) := by rw [hef]; exact and_2047 b b1
  have hM : bits .and .u64 (b : Int) 4503599627370495 = (mf : Int) := by rw [hmf]; exact and_52 b b1
  have hef1 : ef ≤ 2047 := by omega
  have hmf1 : mf < 4503599627370496 := by omega
  rw [← hef] at hb
  have hne : ((ef : Int) == 2047) = true := by rw [beq_iff_eq]; omega
  have h1 : ((mf : Int) != 0) = false := by simp; omega
  obtain rfl : ng = false := by rw [← hng]; exact hs
  clear hm hs
  clear hef hmf hb
  go_enter Tryz.func85, Tryz.ntmps85
  go_wp2_with fail
  go_quiet (fail)
  have hzz : ∀ j, Below W.heap.size W (W.drewN j) := fun j => ⟨rfl, rfl, rfl, Nat.le_refl _, fun _ _ => rfl⟩
  have how' : ∀ j, (W.drewN j).ownsRow B 5 1 v 0 [] := fun j => how
  go_wp2_with (at_builtin; refine Lib.wpList_append_own_string _ rfl _ _ 98 9 rfl B 5 i0 Tryz.underlying98 Tryz.underlying9 hi hz0 hz1 hz2 v 0 [] rfl (how' _) _ rfl ?c3 ?c4 ?c5 ?_)
  case c3 => decide
  case c4 => decide
  case c5 => exact hBW
  intro v' w2 hown hgrow _
  have hb2 := ((hzz _).mono hBW).trans ((Below.refl B _).grown hgrow hBW (fun k hk => (how.lt k hk).1))
  go_wp2_with fail
  go_ret
  exact ⟨_, rfl, hown, hb2⟩

theorem count_D (D : Nat → Int) (n o : Nat) (h : ∀ j, j < o + n → 48 ≤ D j ∧ D j ≤ 57) : ((List.range n).map (fun i => D (o + i))).count 46 = 0 := by
  rw [List.count_eq_zero]
  intro hm
  obtain ⟨i, hi, e⟩ := List.mem_map.1 hm
  have := h (o + i) (by have := List.mem_range.1 hi; omega)
  omega
theorem fmtL_ok (neg : Bool) (D : Nat → Int) (dp : Int) (nd prec : Nat) (h : ∀ j, j < nd → 48 ≤ D j ∧ D j ≤ 57) (hn : nd ≤ 800) (h0 : -60500 ≤ dp) (h1 : dp ≤ 60500) (hp : prec ≤ 3000) : LOk (fmtL neg D dp nd prec) := by
  have hS : LOk (fmtSign neg) ∧ (fmtSign neg).count 46 = 0 ∧ (fmtSign neg).length ≤ 1 := by
    cases neg
    · exact ⟨⟨by simp [fmtSign], by simp [fmtSign], by simp [fmtSign]⟩, by simp [fmtSign], by simp [fmtSign]⟩
    · exact ⟨⟨by simp [fmtSign], by simp [fmtSign], by simp [fmtSign]⟩, by simp [fmtSign], by simp [fmtSign]⟩
  have hI : (∀ c ∈ fmtInt D dp nd, 0 ≤ c ∧ c < 256) ∧ (fmtInt D dp nd).count 46 = 0 ∧ (fmtInt D dp nd).length ≤ 62000 := by
    unfold fmtInt
    split
    · refine ⟨?_, ?_, ?_⟩
      · intro c hc
        rcases List.mem_append.1 hc with hc | hc
        · obtain ⟨i, hi, rfl⟩ := List.mem_map.1 hc
          have := h i (by have := List.mem_range.1 hi; omega)
          omega
        · rw [(List.mem_replicate.1 hc).2]; omega
      · rw [List.count_append, List.count_replicate]
        have := count_D D (min nd dp.toNat) 0 (fun j hj => h j (by omega))
        simp only [Nat.zero_add] at this
        have e : (List.range (min nd dp.toNat)).map D = (List.range (min nd dp.toNat)).map (fun i => D i) := rfl
        rw [e, this]; simp
      · simp; omega
    · exact ⟨by simp, by decide, by simp⟩
  have hF : (∀ c ∈ fmtFrac D dp nd prec, 0 ≤ c ∧ c < 256) ∧ (fmtFrac D dp nd prec).count 46 ≤ 1 ∧ (fmtFrac D dp nd prec).length ≤ 10000 := by
    unfold fmtFrac
    split
    · have hm1 : fmtM dp nd prec ≤ prec - fmtLz dp prec := by unfold fmtM; omega
      have hl1 : fmtLz dp prec ≤ prec := by unfold fmtLz; omega
      have hm2 : 0 < fmtM dp nd prec → (dp + fmtLz dp prec).toNat + fmtM dp nd prec ≤ nd := by unfold fmtM fmtLz; omega
      have hD : ∀ i, i < fmtM dp nd prec → 48 ≤ D ((dp + fmtLz dp prec).toNat + i) ∧ D ((dp + fmtLz dp prec).toNat + i) ≤ 57 := fun i hi => h _ (by have := hm2 (by omega); omega)
      refine ⟨?_, ?_, ?_⟩
      · intro c hc
        simp only [List.mem_append] at hc
        rcases hc with ((hc | hc) | hc) | hc
        · simp at hc; omega
        · rw [(List.mem_replicate.1 hc).2]; omega
        · obtain ⟨i, hi, rfl⟩ := List.mem_map.1 hc
          have := hD i (List.mem_range.1 hi)
          omega
        · rw [(List.mem_replicate.1 hc).2]; omega
      · rw [List.count_append, List.count_append, List.count_append, List.count_replicate, List.count_replicate]
        have : ((List.range (fmtM dp nd prec)).map (fun i => D ((dp + fmtLz dp prec).toNat + i))).count 46 = 0 := by
          rw [List.count_eq_zero]
          intro hm
          obtain ⟨i, hi, e⟩ := List.mem_map.1 hm
          have := hD i (List.mem_range.1 hi)
          omega
        rw [this]; simp
      · simp; omega
    · exact ⟨by simp, by simp, by simp⟩
  refine ⟨?_, ?_, ?_⟩
  · intro c hc
    unfold fmtL at hc
    rcases List.mem_append.1 hc with hc | hc
    · rcases List.mem_append.1 hc with hc | hc
      · exact hS.1.bd c hc
      · exact hI.1 c hc
    · exact hF.1 c hc
  · unfold fmtL; simp only [List.length_append]; omega
  · unfold fmtL; simp only [List.count_append]; omega
theorem ftEx_ok (b : Nat) (prec : Int) (h : FtEx b prec) : ∃ l, LOk l ∧ FtOk b prec l := by
  obtain ⟨D, dp, nd, pr, h1, h2, h3, h4, h5, h6⟩ := h
  exact ⟨_, fmtL_ok _ D dp nd pr h1 h2 h3 h4 h5, h6⟩
/-- ftoa64: one text for each number and each precision. -/
theorem ftoa_ex (b : Nat) (prec : Int) (hb : b < 18446744073709551616) (hp0 : -1 ≤ prec) (hp1 : prec ≤ 100) : ∃ l, LOk l ∧ FtOk b prec l := by
  by_cases hef : b / 4503599627370496 % 2048 = 2047
  · by_cases hm : b % 4503599627370496 = 0
    · cases hs : ((b : Int) / 9223372036854775808 != 0)
      · exact ⟨_, ⟨by decide, by decide, by decide⟩, ftoa_pinf b prec hb hef hm hs⟩
      · exact ⟨_, ⟨by decide, by decide, by decide⟩, ftoa_ninf b prec hb hef hm hs⟩
    · exact ⟨_, ⟨by decide, by decide, by decide⟩, ftoa_nan b prec hb hef hm⟩
  · obtain ⟨mant, exp, h⟩ : ∃ mant exp, Fl b mant exp := by
      by_cases h0 : b / 4503599627370496 % 2048 = 0
      · exact ⟨_, _, hb, Or.inl ⟨h0, rfl, rfl⟩⟩
      · exact ⟨_, _, hb, Or.inr ⟨h0, hef, rfl, rfl⟩⟩
    by_cases h0 : mant = 0
    · exact ⟨_, fmtL_ok _ _ _ _ _ (fun j hj => by omega) (by omega) (by omega) (by omega) (by omega), ftoa_zero b mant exp prec h h0 hp0 hp1⟩
    · by_cases hp : prec < 0
      · exact ftEx_ok _ _ (ftoa_short b mant exp prec h (by omega) hp)
      · rcases Int.lt_or_le 0 (dgF exp prec) with hd | hd
        · rcases Int.lt_or_le 18 (dgF exp prec) with hd2 | hd2
          · obtain ⟨s1, s2, s3, hs⟩ := slow_ex b mant exp prec h (by omega)
            exact ftEx_ok _ _ (ftoa_slow b mant exp prec h (by omega) (by omega) hp1 hd2 s1 s2 s3 hs)
          · obtain ⟨s, m, L, dn, d, K, p, hF⟩ := fast_ex b mant exp prec h (by omega) (by omega) hp1 hd hd2
            by_cases hd0 : d = 0
            · subst hd0
              exact ftEx_ok _ _ (ftoa_fast_z b mant exp prec h (by omega) (by omega) hp1 s m L dn K p hF)
            · exact ftEx_ok _ _ (ftoa_fast_d b mant exp prec h (by omega) (by omega) hp1 s m L dn d K p hF (by omega))
        · exact ftEx_ok _ _ (ftoa_fast0 b mant exp prec h (by omega) (by omega) hp1 hd)
end Go.Proofs.YtlmilelopajdiaaGreatDoor

/-
  FormatFloat at the format f: one string for each number and each precision.
-/
namespace Go.Proofs.YtlmilelopajdiaaGreatDoor
open Go.RowKit

/-- The bytes of a text, as integers. -/
def ints (s : List UInt8) : List Int := s.map fun b => (b.toNat : Int)
theorem ints_of (l : List Int) (h : ∀ c ∈ l, 0 ≤ c ∧ c < 256) : ints (l.map fun c => UInt8.ofNat c.toNat) = l := by
  unfold ints
  rw [List.map_map]
  conv => rhs; rw [← List.map_id l]
  refine List.map_congr_left fun c hc => ?_
  have := h c hc
  simp only [Function.comp, UInt8.toNat_ofNat', id]
  omega
theorem ints_len (s : List UInt8) : (ints s).length = s.length := by unfold ints; simp
theorem ints_get (s : List UInt8) (j : Nat) (hj : j < s.length) : (ints s)[j]? = some (s[j].toNat : Int) := by
  unfold ints; rw [List.getElem?_map, List.getElem?_eq_getElem hj]; rfl
theorem count_ints (s : List UInt8) : (ints s).count 46 = s.count 46 := by
  unfold ints
  induction s with
  | nil => rfl
  | cons a t ih =>
    rw [List.map_cons, List.count_cons, List.count_cons, ih]
    congr 1
    have : ((a.toNat : Int) == 46) = (a == 46) := by
      rw [Bool.eq_iff_iff, beq_iff_eq, beq_iff_eq]
      constructor
      · intro h
        apply UInt8.toNat_inj.1
        show a.toNat = 46
        omega
      · intro h; subst h; rfl
    rw [this]
/-- A row of one's own, turned into a string. -/
theorem conv_own {w : World} {B : Nat} {v : Value} {s : List UInt8} (h : w.ownsRow B 5 1 v s.length ((ints s).map (Value.int .u8))) : (convert 98 9 v).run Tryz.prog w = .ok (.string ⟨s.toArray⟩) w := by
  rcases h.2 with ⟨rfl, h0⟩ | ⟨g, cap, cur, rfl, hB, hg, hn, hm, hs, ht⟩
  · have : s = [] := List.eq_nil_of_length_eq_zero h0
    subst this
    exact Lib.run_convert_nil_bytes w 98 9 5 0 Tryz.underlying98 Tryz.underlying5 Tryz.underlying9
  · refine run_convert_bytes_back w 98 9 5 ⟨g, 0, none⟩ cap s Tryz.underlying98 Tryz.underlying5 Tryz.underlying9 ?_
    intro j hj
    have e : (cur.toList.take (s.length * 1))[j]? = some (.int .u8 (s[j].toNat : Int)) := by
      rw [ht, List.getElem?_map, ints_get s j hj]; rfl
    rw [List.getElem?_take_of_lt (by omega)] at e
    have e2 : cur[j]? = some (.int .u8 (s[j].toNat : Int)) := by rw [← e, Array.getElem?_toList]
    rw [show (Addr.add ⟨g, 0, none⟩ j) = (⟨g, 0 + j, none⟩ : Addr) by simp [Addr.add]; omega]
    rw [Nat.zero_add, Lib.cell_of_heap hg, e2]
theorem max24 (prec : Int) (h : prec ≤ 20) : max (prec + 4) 24 = 24 := by omega
theorem mk24 (w : World) : (Instr.makeSlice 98 (.int .i64 0) (.int .i64 24)).run Tryz.prog w = .ok (.slice (some ⟨w.heap.size, 0, none⟩) 0 24) (w.alloc (.cells (Array.replicate 24 (.int .u8 0)) 5)) := by kernel_rfl
/-- What a number's text is. -/
structure SOk (s : List UInt8) : Prop where
  len : s.length ≤ 100000
  dots : s.count 46 ≤ 1

set_option maxHeartbeats 1000000 in
theorem ff_in (b : Nat) (prec : Int) (hb : b < 18446744073709551616) (hp0 : -1 ≤ prec) (hp1 : prec ≤ 20) : ∃ s : List UInt8, SOk s ∧ ∀ (B : Nat) (w : World), Tabs B w → B ≤ w.heap.size →
    Calls Tryz.prog 80 #[.float .f64 b, .int .u8 102, .int .i64 prec, .int .i64 64] w fun e w' => e = .returned (.string ⟨s.toArray⟩) ∧ Below w.heap.size w w' := by
  obtain ⟨l, hl, hf⟩ := ftoa_ex b prec hb hp0 (by omega)
  obtain ⟨s, hs⟩ : ∃ s : List UInt8, ints s = l := ⟨_, ints_of l hl.bd⟩
  subst hs
  refine ⟨s, ⟨by have := hl.len; rw [ints_len] at this; exact this, by have := hl.dots; rw [count_ints] at this; exact this⟩, ?_⟩
  have HF := Lib.hid hf
  clear hf hl
  intro B w hT hB
  have hmx := max24 prec hp1
  have hmk := mk24
  go_enter Tryz.func80, Tryz.ntmps80
  go_wp2_with fail
  have hb1 : Below w.heap.size w (w.alloc (.cells (Array.replicate 24 (.int .u8 0)) 5)) := (Below.refl _ _).alloc (Nat.le_refl _) _
  have how : (w.alloc (.cells (Array.replicate 24 (.int .u8 0)) 5)).ownsRow w.heap.size 5 1 (.slice (some ⟨w.heap.size, 0, none⟩) 0 24) 0 [] := World.ownsRow_made w _ 24 (Nat.le_refl _) (by decide) (by simp)
  have hT1 := (hT.below (hb1.mono hB)).mono hB
  have hs1 := hb1.size
  generalize w.alloc _ = w1 at hb1 how hT1 hs1 ⊢
  refine (HF.out w.heap.size _ w1 how hT1 hs1).mono ?_
  rintro e w2 ⟨v', rfl, how2, hb2⟩
  rw [ints_len] at how2
  have hcv := conv_own how2
  go_wp2_with fail
  go_ret
  exact ⟨rfl, hb1.trans hb2⟩
theorem ff_out (b : Nat) (prec : Int) (hb : b < 18446744073709551616) (hp0 : -1 ≤ prec) (hp1 : prec ≤ 20) : ∃ s : List UInt8, SOk s ∧ ∀ (B : Nat) (w : World), Tabs B w → B ≤ w.heap.size →
    Calls Tryz.prog 60 #[.float .f64 b, .int .u8 102, .int .i64 prec, .int .i64 64] w fun e w' => e = .returned (.string ⟨s.toArray⟩) ∧ Below w.heap.size w w' := by
  obtain ⟨s, hs, hf⟩ := ff_in b prec hb hp0 hp1
  refine ⟨s, hs, ?_⟩
  have HF := Lib.hid hf
  clear hf
  intro B w hT hB
  go_enter Tryz.func60, Tryz.ntmps60
  go_wp2_with fail
  refine (HF.out B w hT hB).mono ?_
  rintro e w2 ⟨rfl, hb2⟩
  go_wp2_with fail
  go_ret
  exact ⟨rfl, hb2⟩
/-- The text of a number. -/
noncomputable def numT (b : Nat) (prec : Int) : List UInt8 :=
  open Classical in if h : b < 18446744073709551616 ∧ -1 ≤ prec ∧ prec ≤ 20 then (ff_out b prec h.1 h.2.1 h.2.2).choose else []
theorem numT_ok (b : Nat) (prec : Int) (hb : b < 18446744073709551616) (hp0 : -1 ≤ prec) (hp1 : prec ≤ 20) : SOk (numT b prec) ∧ ∀ (B : Nat) (w : World), Tabs B w → B ≤ w.heap.size →
    Calls Tryz.prog 60 #[.float .f64 b, .int .u8 102, .int .i64 prec, .int .i64 64] w fun e w' => e = .returned (.string ⟨(numT b prec).toArray⟩) ∧ Below w.heap.size w w' := by
  unfold numT
  rw [dif_pos ⟨hb, hp0, hp1⟩]
  exact (ff_out b prec hb hp0 hp1).choose_spec
end Go.Proofs.YtlmilelopajdiaaGreatDoor
