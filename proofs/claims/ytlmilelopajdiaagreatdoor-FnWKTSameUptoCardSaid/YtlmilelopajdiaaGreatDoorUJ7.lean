/-
  The statement's side: a part of good data.
-/
import Derived.Test.YtlmilelopajdiaaGreatDoorUJ0
import Derived.Test.YtlmilelopajdiaaGreatDoorUJ1
import Derived.Test.YtlmilelopajdiaaGreatDoorUJ3
import Derived.Test.YtlmilelopajdiaaGreatDoorUJ5
import Derived.Test.YtlmilelopajdiaaGreatDoorUJ6
namespace Go.Proofs.YtlmilelopajdiaaGreatDoor
open Go.RowKit

theorem seg_at {f : List Nat} {lo m : Nat} (h : lo + m ≤ f.length) : (((f.take (lo + m)).drop lo).map fv).length = m ∧ ∀ (j : Nat) (u : Value), (((f.take (lo + m)).drop lo).map fv)[j]? = some u → (f.map fv)[lo + j]? = some u := by
  constructor
  · rw [List.length_map, List.length_drop, List.length_take]; omega
  · intro j u hu
    rw [List.getElem?_map, List.getElem?_drop, List.getElem?_take] at hu
    rw [List.getElem?_map]
    split at hu
    · exact hu
    · cases hu
theorem seg_nil {f : List Nat} {lo m : Nat} (h : m = 0) : ((f.take (lo + m)).drop lo).map fv = [] := by
  subst h
  rw [List.map_eq_nil_iff, List.drop_eq_nil_iff, List.length_take]; omega
/-- What a list of numbers is as a slice, for Part. -/
theorem row_ways {w : World} {B : Nat} {vf : Value} {f : List Nat} (h : Row w B vf (f.map fv)) (hB : B ≤ w.heap.size) (lo m : Nat) (hm : lo + m ≤ f.length) :
    f.length ≤ 1000000000 ∧ ((lo = 0 ∧ m = 0 ∧ vf = .slice none 0 0) ∨ (∃ ad p3, lo = 0 ∧ m = 0 ∧ vf = .slice (some ad) 0 p3 ∧ p3 ≤ 9223372036854775807) ∨ (∃ fb fo p3, vf = .slice (some ⟨fb, fo, none⟩) f.length p3 ∧ f.length ≤ p3 ∧ p3 ≤ 9223372036854775807 ∧
      ((0 < m ∧ ∀ w', Below w.heap.size w w' → ∀ (j : Nat) (u : Value), (((f.take (lo + m)).drop lo).map fv)[j]? = some u → w'.cell? ((⟨fb, fo + lo, none⟩ : Addr).add j) = some u) ∨ (m = 0 ∧ lo < p3) ∨ (m = 0 ∧ lo = p3 ∧ f.length = lo)))) := by
  obtain ⟨a, c, h1, h2, h3, h4, h5⟩ := h
  rw [List.length_map] at h1 h2 h3
  refine ⟨h3.1, ?_⟩
  by_cases hf : f = []
  · have hl : f.length = 0 := by rw [hf]; rfl
    rw [hl] at h1
    cases a with
    | none =>
      obtain ⟨_, rfl⟩ := h4 rfl
      exact Or.inl ⟨by omega, by omega, h1⟩
    | some ad => exact Or.inr (Or.inl ⟨ad, c, by omega, by omega, h1, h3.2⟩)
  · obtain ⟨b, o, rfl, hb, hc⟩ := h5 (fun h => hf (List.map_eq_nil_iff.1 h))
    refine Or.inr (Or.inr ⟨b, o, c, h1, h2, h3.2, ?_⟩)
    by_cases hm0 : m = 0
    · by_cases hl : lo < c
      · exact Or.inr (Or.inl ⟨hm0, hl⟩)
      · exact Or.inr (Or.inr ⟨hm0, by omega, by omega⟩)
    · refine Or.inl ⟨by omega, fun w' hb' j u hu => ?_⟩
      rw [Go.WideShapes.add_plain, hb'.cell (show b < w.heap.size by omega)]
      have := hc _ u ((seg_at hm).2 j u hu)
      rw [Nat.add_assoc]; exact this
theorem ends_ways {w : World} {B : Nat} {ve : Value} {e : List Int} (h : Row w B ve (e.map iv)) (hB : B ≤ w.heap.size) (i : Nat) (hi : i < e.length) :
    ∃ eb eo p4, ve = .slice (some ⟨eb, eo, none⟩) e.length p4 ∧ e.length ≤ p4 ∧ e.length ≤ 1000000000 ∧ p4 ≤ 9223372036854775807 ∧ eb < w.heap.size ∧ ∀ j, j < e.length → w.cell? ⟨eb, eo + j, none⟩ = some (.int .i64 (e.getD j 0)) := by
  obtain ⟨a, c, h1, h2, h3, h4, h5⟩ := h
  rw [List.length_map] at h1 h2 h3
  obtain ⟨b, o, rfl, hb, hc⟩ := h5 (fun h => by rw [List.map_eq_nil_iff] at h; rw [h] at hi; simp at hi)
  refine ⟨b, o, c, h1, h2, h3.1, h3.2, by omega, fun j hj => hc j _ ?_⟩
  rw [List.getElem?_map, List.getD, List.getElem?_eq_getElem hj]; rfl
theorem arep_seg {w : World} {B : Nat} {k l : Int} {xs : List Nat} {v : Value} (h : Row w B v (xs.map fv)) : ARep w B (.mk k l 0 xs [] [] []) [.int .i64 k, .int .i64 l, .int .i64 0, v, .slice none 0 0, .slice none 0 0, .slice none 0 0] := by
  rw [arep_eq]
  have hn : ∀ x : List Value, x = [] → Row w B (.slice none 0 0) x := by
    rintro x rfl
    exact ⟨none, 0, rfl, Nat.le_refl _, ⟨Nat.zero_le _, Nat.zero_le _⟩, fun _ => ⟨rfl, rfl⟩, fun h => absurd rfl h⟩
  refine ⟨_, _, _, _, rfl, h, hn _ rfl, ⟨[], hn _ rfl, rfl, fun i x es h => by simp at h⟩, [], ⟨none, 0, rfl, Nat.le_refl _, ⟨Nat.zero_le _, Nat.zero_le _⟩, fun _ => ⟨rfl, rfl⟩, fun h => absurd rfl h⟩, rfl, fun i c g h => by simp at h⟩

theorem partE3 (l s : Int) (f : List Nat) (e : List Int) (w : World) (B : Nat) (vf ve : Value) (hf : Row w B vf (f.map fv)) (he : Row w B ve (e.map iv)) (hB : B ≤ w.heap.size) (a5 a6 : Option Addr) (n5 p5 n6 p6 i lo m : Nat) (hi : i < e.length) (hlo : prevE 0 e i = (lo : Nat)) (hhi : e.getD i 0 = ((lo + m : Nat) : Int)) (hm : lo + m ≤ f.length) :
    Calls Tryz.prog 51 #[.agg #[.int .i64 3, .int .i64 l, .int .i64 s, vf, ve, .slice a5 n5 p5, .slice a6 n6 p6], .int .i64 (i : Nat)] w fun e' w' => PEOut 8 l (((f.take (lo + m)).drop lo).map fv) w e' w' := by
  obtain ⟨eb, eo, p4, rfl, hn4, hi9, hp4, heb, hce⟩ := ends_ways he hB i hi
  obtain ⟨hn39, hw⟩ := row_ways hf hB lo m hm
  have hx := hce i hi
  rw [hhi] at hx
  cases i with
  | zero =>
    have h0 : lo = 0 := by have : (0 : Int) = (lo : Nat) := hlo; omega
    subst h0
    rw [Nat.add_zero] at hx
    rcases hw with ⟨_, rfl, rfl⟩ | ⟨ad, p3, _, rfl, rfl, hp3⟩ | ⟨fb, fo, p3, rfl, hn3, hp3, ⟨hm0, hc⟩ | ⟨rfl, hl⟩ | ⟨rfl, hl, hl2⟩⟩
    · rw [seg_nil rfl]
      exact pE30_nil w eb eo e.length p4 n5 p5 n6 p6 l s a5 a6 (hi := hi) (_hi9 := hi9) (_hn4 := hn4) (_hp4 := hp4) (hcx := hx) (heb := heb)
    · rw [seg_nil rfl]
      exact pE30_any w eb eo e.length p4 n5 p5 n6 p6 l s a5 a6 ad p3 (hi := hi) (_hi9 := hi9) (_hn4 := hn4) (_hp4 := hp4) (_hp3 := hp3) (hcx := hx) (heb := heb)
    · exact pE30_pos w eb eo e.length p4 n5 p5 n6 p6 l s a5 a6 fb fo f.length p3 m _ (hi := hi) (_hi9 := hi9) (_hn4 := hn4) (_hp4 := hp4) (hm := hm0) (hlo := hm) (hn3 := hn3) (hn39 := hn39) (_hp3 := hp3) (hcx := by rw [Nat.zero_add] at hx; exact hx) (heb := heb) (hvl := (seg_at hm).1) (hvc := hc)
    · rw [seg_nil rfl]
      exact pE30_lit w eb eo e.length p4 n5 p5 n6 p6 l s a5 a6 fb fo f.length p3 (hi := hi) (_hi9 := hi9) (_hn4 := hn4) (_hp4 := hp4) (_hlo := Nat.zero_le _) (_hn3 := hn3) (_hn39 := hn39) (_hp3 := hp3) (hcx := hx) (heb := heb)
    · rw [seg_nil rfl]
      exact pE30_lit w eb eo e.length p4 n5 p5 n6 p6 l s a5 a6 fb fo f.length p3 (hi := hi) (_hi9 := hi9) (_hn4 := hn4) (_hp4 := hp4) (_hlo := Nat.zero_le _) (_hn3 := hn3) (_hn39 := hn39) (_hp3 := hp3) (hcx := hx) (heb := heb)
  | succ j =>
    have hpj := hce j (by omega)
    have h0 : e.getD j 0 = (lo : Nat) := by
      unfold prevE at hlo
      rw [if_neg (by omega), Nat.add_sub_cancel] at hlo
      exact hlo
    rw [h0] at hpj
    rcases hw with ⟨rfl, rfl, rfl⟩ | ⟨ad, p3, rfl, rfl, rfl, hp3⟩ | ⟨fb, fo, p3, rfl, hn3, hp3, ⟨hm0, hc⟩ | ⟨rfl, hl⟩ | ⟨rfl, hl, hl2⟩⟩
    · rw [seg_nil rfl]
      exact pE3S_nil w eb eo e.length p4 n5 p5 n6 p6 l s a5 a6 j (hi := hi) (_hi9 := hi9) (hn4 := hn4) (hp4 := hp4) (hcx := hx) (heb := heb) (hcp := hpj)
    · rw [seg_nil rfl]
      exact pE3S_any w eb eo e.length p4 n5 p5 n6 p6 l s a5 a6 ad p3 j (hi := hi) (_hi9 := hi9) (hn4 := hn4) (hp4 := hp4) (_hp3 := hp3) (hcx := hx) (heb := heb) (hcp := hpj)
    · exact pE3S_pos w eb eo e.length p4 n5 p5 n6 p6 l s a5 a6 fb fo f.length p3 j lo m _ (hi := hi) (_hi9 := hi9) (hn4 := hn4) (hp4 := hp4) (hm := hm0) (hlo := hm) (hn3 := hn3) (hn39 := hn39) (hp3 := hp3) (hcx := hx) (heb := heb) (hcp := hpj) (hvl := (seg_at hm).1) (hvc := hc)
    · rw [seg_nil rfl]
      exact pE3S_lit w eb eo e.length p4 n5 p5 n6 p6 l s a5 a6 fb fo f.length p3 j lo (hi := hi) (_hi9 := hi9) (hn4 := hn4) (hp4 := hp4) (_hlo := by omega) (hlp := hl) (_hn3 := hn3) (_hn39 := hn39) (_hp3 := hp3) (hcx := hx) (heb := heb) (hcp := hpj)
    · rw [seg_nil rfl]
      have hfl : f.length = lo := hl2
      rw [hfl, ← hl]
      exact pE3S_litE w eb eo e.length p4 n5 p5 n6 p6 l s a5 a6 fb fo j lo (hi := hi) (_hi9 := hi9) (hn4 := hn4) (hp4 := hp4) (_hlo9 := by omega) (hcx := hx) (heb := heb) (hcp := hpj)

theorem partE4 (l s : Int) (f : List Nat) (e : List Int) (w : World) (B : Nat) (vf ve : Value) (hf : Row w B vf (f.map fv)) (he : Row w B ve (e.map iv)) (hB : B ≤ w.heap.size) (a5 a6 : Option Addr) (n5 p5 n6 p6 i lo m : Nat) (hi : i < e.length) (hlo : prevE 0 e i = (lo : Nat)) (hhi : e.getD i 0 = ((lo + m : Nat) : Int)) (hm : lo + m ≤ f.length) :
    Calls Tryz.prog 51 #[.agg #[.int .i64 4, .int .i64 l, .int .i64 s, vf, ve, .slice a5 n5 p5, .slice a6 n6 p6], .int .i64 (i : Nat)] w fun e' w' => PEOut 1 l (((f.take (lo + m)).drop lo).map fv) w e' w' := by
  obtain ⟨eb, eo, p4, rfl, hn4, hi9, hp4, heb, hce⟩ := ends_ways he hB i hi
  obtain ⟨hn39, hw⟩ := row_ways hf hB lo m hm
  have hx := hce i hi
  rw [hhi] at hx
  cases i with
  | zero =>
    have h0 : lo = 0 := by have : (0 : Int) = (lo : Nat) := hlo; omega
    subst h0
    rw [Nat.add_zero] at hx
    rcases hw with ⟨_, rfl, rfl⟩ | ⟨ad, p3, _, rfl, rfl, hp3⟩ | ⟨fb, fo, p3, rfl, hn3, hp3, ⟨hm0, hc⟩ | ⟨rfl, hl⟩ | ⟨rfl, hl, hl2⟩⟩
    · rw [seg_nil rfl]
      exact pE40_nil w eb eo e.length p4 n5 p5 n6 p6 l s a5 a6 (hi := hi) (_hi9 := hi9) (_hn4 := hn4) (_hp4 := hp4) (hcx := hx) (heb := heb)
    · rw [seg_nil rfl]
      exact pE40_any w eb eo e.length p4 n5 p5 n6 p6 l s a5 a6 ad p3 (hi := hi) (_hi9 := hi9) (_hn4 := hn4) (_hp4 := hp4) (_hp3 := hp3) (hcx := hx) (heb := heb)
    · exact pE40_pos w eb eo e.length p4 n5 p5 n6 p6 l s a5 a6 fb fo f.length p3 m _ (hi := hi) (_hi9 := hi9) (_hn4 := hn4) (_hp4 := hp4) (hm := hm0) (hlo := hm) (hn3 := hn3) (hn39 := hn39) (_hp3 := hp3) (hcx := by rw [Nat.zero_add] at hx; exact hx) (heb := heb) (hvl := (seg_at hm).1) (hvc := hc)
    · rw [seg_nil rfl]
      exact pE40_lit w eb eo e.length p4 n5 p5 n6 p6 l s a5 a6 fb fo f.length p3 (hi := hi) (_hi9 := hi9) (_hn4 := hn4) (_hp4 := hp4) (_hlo := Nat.zero_le _) (_hn3 := hn3) (_hn39 := hn39) (_hp3 := hp3) (hcx := hx) (heb := heb)
    · rw [seg_nil rfl]
      exact pE40_lit w eb eo e.length p4 n5 p5 n6 p6 l s a5 a6 fb fo f.length p3 (hi := hi) (_hi9 := hi9) (_hn4 := hn4) (_hp4 := hp4) (_hlo := Nat.zero_le _) (_hn3 := hn3) (_hn39 := hn39) (_hp3 := hp3) (hcx := hx) (heb := heb)
  | succ j =>
    have hpj := hce j (by omega)
    have h0 : e.getD j 0 = (lo : Nat) := by
      unfold prevE at hlo
      rw [if_neg (by omega), Nat.add_sub_cancel] at hlo
      exact hlo
    rw [h0] at hpj
    rcases hw with ⟨rfl, rfl, rfl⟩ | ⟨ad, p3, rfl, rfl, rfl, hp3⟩ | ⟨fb, fo, p3, rfl, hn3, hp3, ⟨hm0, hc⟩ | ⟨rfl, hl⟩ | ⟨rfl, hl, hl2⟩⟩
    · rw [seg_nil rfl]
      exact pE4S_nil w eb eo e.length p4 n5 p5 n6 p6 l s a5 a6 j (hi := hi) (_hi9 := hi9) (hn4 := hn4) (hp4 := hp4) (hcx := hx) (heb := heb) (hcp := hpj)
    · rw [seg_nil rfl]
      exact pE4S_any w eb eo e.length p4 n5 p5 n6 p6 l s a5 a6 ad p3 j (hi := hi) (_hi9 := hi9) (hn4 := hn4) (hp4 := hp4) (_hp3 := hp3) (hcx := hx) (heb := heb) (hcp := hpj)
    · exact pE4S_pos w eb eo e.length p4 n5 p5 n6 p6 l s a5 a6 fb fo f.length p3 j lo m _ (hi := hi) (_hi9 := hi9) (hn4 := hn4) (hp4 := hp4) (hm := hm0) (hlo := hm) (hn3 := hn3) (hn39 := hn39) (hp3 := hp3) (hcx := hx) (heb := heb) (hcp := hpj) (hvl := (seg_at hm).1) (hvc := hc)
    · rw [seg_nil rfl]
      exact pE4S_lit w eb eo e.length p4 n5 p5 n6 p6 l s a5 a6 fb fo f.length p3 j lo (hi := hi) (_hi9 := hi9) (hn4 := hn4) (hp4 := hp4) (_hlo := by omega) (hlp := hl) (_hn3 := hn3) (_hn39 := hn39) (_hp3 := hp3) (hcx := hx) (heb := heb) (hcp := hpj)
    · rw [seg_nil rfl]
      have hfl : f.length = lo := hl2
      rw [hfl, ← hl]
      exact pE4S_litE w eb eo e.length p4 n5 p5 n6 p6 l s a5 a6 fb fo j lo (hi := hi) (_hi9 := hi9) (hn4 := hn4) (hp4 := hp4) (_hlo9 := by omega) (hcx := hx) (heb := heb) (hcp := hpj)

theorem partE5 (l s : Int) (f : List Nat) (e : List Int) (w : World) (B : Nat) (vf ve : Value) (hf : Row w B vf (f.map fv)) (he : Row w B ve (e.map iv)) (hB : B ≤ w.heap.size) (a5 a6 : Option Addr) (n5 p5 n6 p6 i lo m : Nat) (hi : i < e.length) (hlo : prevE 0 e i = (lo : Nat)) (hhi : e.getD i 0 = ((lo + m : Nat) : Int)) (hm : lo + m ≤ f.length) :
    Calls Tryz.prog 51 #[.agg #[.int .i64 5, .int .i64 l, .int .i64 s, vf, ve, .slice a5 n5 p5, .slice a6 n6 p6], .int .i64 (i : Nat)] w fun e' w' => PEOut 2 l (((f.take (lo + m)).drop lo).map fv) w e' w' := by
  obtain ⟨eb, eo, p4, rfl, hn4, hi9, hp4, heb, hce⟩ := ends_ways he hB i hi
  obtain ⟨hn39, hw⟩ := row_ways hf hB lo m hm
  have hx := hce i hi
  rw [hhi] at hx
  cases i with
  | zero =>
    have h0 : lo = 0 := by have : (0 : Int) = (lo : Nat) := hlo; omega
    subst h0
    rw [Nat.add_zero] at hx
    rcases hw with ⟨_, rfl, rfl⟩ | ⟨ad, p3, _, rfl, rfl, hp3⟩ | ⟨fb, fo, p3, rfl, hn3, hp3, ⟨hm0, hc⟩ | ⟨rfl, hl⟩ | ⟨rfl, hl, hl2⟩⟩
    · rw [seg_nil rfl]
      exact pE50_nil w eb eo e.length p4 n5 p5 n6 p6 l s a5 a6 (hi := hi) (_hi9 := hi9) (_hn4 := hn4) (_hp4 := hp4) (hcx := hx) (heb := heb)
    · rw [seg_nil rfl]
      exact pE50_any w eb eo e.length p4 n5 p5 n6 p6 l s a5 a6 ad p3 (hi := hi) (_hi9 := hi9) (_hn4 := hn4) (_hp4 := hp4) (_hp3 := hp3) (hcx := hx) (heb := heb)
    · exact pE50_pos w eb eo e.length p4 n5 p5 n6 p6 l s a5 a6 fb fo f.length p3 m _ (hi := hi) (_hi9 := hi9) (_hn4 := hn4) (_hp4 := hp4) (hm := hm0) (hlo := hm) (hn3 := hn3) (hn39 := hn39) (_hp3 := hp3) (hcx := by rw [Nat.zero_add] at hx; exact hx) (heb := heb) (hvl := (seg_at hm).1) (hvc := hc)
    · rw [seg_nil rfl]
      exact pE50_lit w eb eo e.length p4 n5 p5 n6 p6 l s a5 a6 fb fo f.length p3 (hi := hi) (_hi9 := hi9) (_hn4 := hn4) (_hp4 := hp4) (_hlo := Nat.zero_le _) (_hn3 := hn3) (_hn39 := hn39) (_hp3 := hp3) (hcx := hx) (heb := heb)
    · rw [seg_nil rfl]
      exact pE50_lit w eb eo e.length p4 n5 p5 n6 p6 l s a5 a6 fb fo f.length p3 (hi := hi) (_hi9 := hi9) (_hn4 := hn4) (_hp4 := hp4) (_hlo := Nat.zero_le _) (_hn3 := hn3) (_hn39 := hn39) (_hp3 := hp3) (hcx := hx) (heb := heb)
  | succ j =>
    have hpj := hce j (by omega)
    have h0 : e.getD j 0 = (lo : Nat) := by
      unfold prevE at hlo
      rw [if_neg (by omega), Nat.add_sub_cancel] at hlo
      exact hlo
    rw [h0] at hpj
    rcases hw with ⟨rfl, rfl, rfl⟩ | ⟨ad, p3, rfl, rfl, rfl, hp3⟩ | ⟨fb, fo, p3, rfl, hn3, hp3, ⟨hm0, hc⟩ | ⟨rfl, hl⟩ | ⟨rfl, hl, hl2⟩⟩
    · rw [seg_nil rfl]
      exact pE5S_nil w eb eo e.length p4 n5 p5 n6 p6 l s a5 a6 j (hi := hi) (_hi9 := hi9) (hn4 := hn4) (hp4 := hp4) (hcx := hx) (heb := heb) (hcp := hpj)
    · rw [seg_nil rfl]
      exact pE5S_any w eb eo e.length p4 n5 p5 n6 p6 l s a5 a6 ad p3 j (hi := hi) (_hi9 := hi9) (hn4 := hn4) (hp4 := hp4) (_hp3 := hp3) (hcx := hx) (heb := heb) (hcp := hpj)
    · exact pE5S_pos w eb eo e.length p4 n5 p5 n6 p6 l s a5 a6 fb fo f.length p3 j lo m _ (hi := hi) (_hi9 := hi9) (hn4 := hn4) (hp4 := hp4) (hm := hm0) (hlo := hm) (hn3 := hn3) (hn39 := hn39) (hp3 := hp3) (hcx := hx) (heb := heb) (hcp := hpj) (hvl := (seg_at hm).1) (hvc := hc)
    · rw [seg_nil rfl]
      exact pE5S_lit w eb eo e.length p4 n5 p5 n6 p6 l s a5 a6 fb fo f.length p3 j lo (hi := hi) (_hi9 := hi9) (hn4 := hn4) (hp4 := hp4) (_hlo := by omega) (hlp := hl) (_hn3 := hn3) (_hn39 := hn39) (_hp3 := hp3) (hcx := hx) (heb := heb) (hcp := hpj)
    · rw [seg_nil rfl]
      have hfl : f.length = lo := hl2
      rw [hfl, ← hl]
      exact pE5S_litE w eb eo e.length p4 n5 p5 n6 p6 l s a5 a6 fb fo j lo (hi := hi) (_hi9 := hi9) (hn4 := hn4) (hp4 := hp4) (_hlo9 := by omega) (hcx := hx) (heb := heb) (hcp := hpj)
end Go.Proofs.YtlmilelopajdiaaGreatDoor

/-
  The statement's side: a part of good data, at every kind.
-/
namespace Go.Proofs.YtlmilelopajdiaaGreatDoor
open Go.RowKit

theorem numP_eq (k l s : Int) (f : List Nat) (e : List Int) (ee : List (List Int)) (kids : List Gm) : numP (.mk k l s f e ee kids) = if k = 3 ∨ k = 4 ∨ k = 5 then e.length else if k = 6 then ee.length else kids.length := rfl
theorem partG_eq (k l s : Int) (f : List Nat) (e : List Int) (ee : List (List Int)) (kids : List Gm) (i : Nat) : partG (.mk k l s f e ee kids) i = if k = 7 then kids.getD i (.mk 0 0 0 [] [] [] []) else if k = 6 then .mk 3 l 0 ((f.take (tJ ee (i + 1)).toNat).drop (tJ ee i).toNat) ((ee.getD i []).map fun x => x - tJ ee i) [] [] else
    .mk (if k = 3 then 8 else k - 3) l 0 ((f.take (e.getD i 0).toNat).drop (prevE 0 e i).toNat) [] [] [] := rfl
/-- A part that the call has made. -/
def New (w w' : World) (p : Gm) (c : List Value) : Prop := ∃ k l xs e vF vE, p = .mk k l 0 xs e [] [] ∧ c = [.int .i64 k, .int .i64 l, .int .i64 0, vF, vE, .slice none 0 0, .slice none 0 0] ∧ OwnT w w' vF (xs.map fv) ∧ OwnT w w' vE (e.map iv)
/-- What Part answers: a kid as it was, or a new part. -/
def PartOut (w0 : World) (B0 : Nat) (p : Gm) (w : World) (e : Ending) (w' : World) : Prop := ∃ c, e = .returned (.agg c.toArray) ∧ Below w.heap.size w w' ∧ (ARep w0 B0 p c ∨ New w w' p c)
theorem own_nil (w w' : World) : OwnT w w' (.slice none 0 0) [] := ⟨⟨none, 0, rfl, Nat.le_refl _, ⟨Nat.zero_le _, Nat.zero_le _⟩, fun _ => ⟨rfl, rfl⟩, fun h => absurd rfl h⟩, fun b h => by cases h⟩
theorem calls_pe {g : Gm} {i : Nat} {kd l : Int} {xs : List Nat} {w : World} {a : Array Value} (hg : partG g i = .mk kd l 0 xs [] [] []) (h : Calls Tryz.prog 51 a w fun e' w' => PEOut kd l (xs.map fv) w e' w') (w0 : World) (B0 : Nat) : Calls Tryz.prog 51 a w fun e' w' => PartOut w0 B0 (partG g i) w e' w' := by
  refine h.mono ?_
  rintro e' w' ⟨v, rfl, hr, hb⟩
  exact ⟨_, rfl, hb, Or.inr ⟨kd, l, xs, [], v, _, hg, rfl, hr, own_nil _ _⟩⟩
theorem seg_of {st : Nat} {sg : Bool} {f : List Nat} {e : List Int} (h : EndsOk st sg 0 e) (hl : prevE 0 e e.length = (f.length : Int)) {i : Nat} (hi : i < e.length) : ∃ lo m : Nat, prevE 0 e i = (lo : Nat) ∧ e.getD i 0 = ((lo + m : Nat) : Int) ∧ lo + m ≤ f.length ∧ ((f.take (e.getD i 0).toNat).drop (prevE 0 e i).toNat) = (f.take (lo + m)).drop lo := by
  have h1 := ends_in h i hi
  rw [hl] at h1
  refine ⟨(prevE 0 e i).toNat, (e.getD i 0 - prevE 0 e i).toNat, by omega, by omega, by omega, ?_⟩
  rw [show (e.getD i 0).toNat = (prevE 0 e i).toNat + (e.getD i 0 - prevE 0 e i).toNat by omega]
theorem area_in {st : Nat} {f : List Nat} {ee : List (List Int)} (h : ∀ j (hj : j < ee.length), EndsOk st false (tJ ee j) ee[j]) (hl : tJ ee ee.length = (f.length : Int)) (i : Nat) (hi : i < ee.length) :
    0 ≤ tJ ee i ∧ tJ ee i ≤ tJ ee (i + 1) ∧ tJ ee (i + 1) ≤ (f.length : Int) ∧ ∀ x ∈ ee[i], tJ ee i ≤ x ∧ x ≤ tJ ee (i + 1) := by
  have h2 := tJ_mono h (i + 1) ee.length (by omega) (Nat.le_refl _)
  have h3 := tJ_mono h 0 i (Nat.zero_le _) (by omega)
  have h4 : tJ ee 0 = 0 := by simp [tJ]
  have h5 := tJ_mono h i (i + 1) (by omega) (by omega)
  refine ⟨by omega, h5, by omega, fun x hx => ?_⟩
  obtain ⟨k, hk, rfl⟩ := mem_getD hx
  have h1 := ends_in (h i hi) k hk
  rw [tJ_succ ee i hi]
  omega
theorem area_at {w : World} {B : Nat} {vee : Value} {vs : List Value} {ee : List (List Int)} (h : Row w B vee vs) (hl : vs.length = ee.length) (hB : B ≤ w.heap.size) (hv : ∀ (i : Nat) (x : Value) (es : List Int), vs[i]? = some x → ee[i]? = some es → Row w B x (es.map iv)) (i : Nat) (hi : i < ee.length) :
    ∃ b5 o5 p5, vee = .slice (some ⟨b5, o5, none⟩) ee.length p5 ∧ ee.length ≤ p5 ∧ ee.length ≤ 1000000000 ∧ p5 ≤ 9223372036854775807 ∧ b5 < w.heap.size ∧ ∀ j, j < ee.length → AreaAt w b5 o5 ee j := by
  obtain ⟨a, c, h1, h2, h3, h4, h5⟩ := h
  obtain ⟨b, o, rfl, hb, hc⟩ := h5 (by intro h; rw [h] at hl; simp at hl; omega)
  rw [hl] at h1 h2 h3
  refine ⟨b, o, c, h1, h2, h3.1, h3.2, by omega, fun j hj => ?_⟩
  obtain ⟨x, hx⟩ : ∃ x, vs[j]? = some x := ⟨_, List.getElem?_eq_getElem (by omega)⟩
  obtain ⟨es, hes⟩ : ∃ es, ee[j]? = some es := ⟨_, List.getElem?_eq_getElem hj⟩
  obtain ⟨a', c', e1, e2, e3, e4, e5⟩ := hv j x es hx hes
  rw [List.length_map] at e1 e2 e3
  refine ⟨es, a', es.length, c', hes, rfl, by rw [← e1]; exact hc j x hx, e2, e3.1, e3.2, fun hn => ?_⟩
  obtain ⟨b', o', q1, q2, q3⟩ := e5 (fun h => hn (by rw [List.map_eq_nil_iff.1 h]; rfl))
  exact ⟨b', o', q1, by omega, fun k y hy => q3 k _ (by rw [List.getElem?_map, hy]; rfl)⟩
theorem part6 (l s : Int) (f : List Nat) (e : List Int) (ee : List (List Int)) (kids : List Gm) (w : World) (B : Nat) (cs : List Value) (h : ARep w B (.mk 6 l s f e ee kids) cs) (hB : B ≤ w.heap.size) (st : Nat) (hE : ∀ j (hj : j < ee.length), EndsOk st false (tJ ee j) ee[j]) (hl : tJ ee ee.length = (f.length : Int)) (i : Nat) (hi : i < ee.length) (w0 : World) (B0 : Nat) :
    Calls Tryz.prog 51 #[.agg cs.toArray, .int .i64 (i : Nat)] w fun e' w' => PartOut w0 B0 (partG (.mk 6 l s f e ee kids) i) w e' w' := by
  rw [arep_eq] at h
  obtain ⟨vf, ve, vee, vk, rfl, hf, he, ⟨vs, hvs, hvl, hvi⟩, css, hrk, _⟩ := h
  obtain ⟨a4, p4, h4⟩ := he.lit
  obtain ⟨a6, p6, h6⟩ := hrk.lit
  subst h4 h6
  obtain ⟨b5, o5, p5, rfl, q1, q2, q3, q4, q5⟩ := area_at hvs hvl hB hvi i hi
  obtain ⟨z1, z2, z3, z4⟩ := area_in hE hl i hi
  obtain ⟨lo, hlo⟩ : ∃ lo : Nat, tJ ee i = lo := ⟨(tJ ee i).toNat, by omega⟩
  obtain ⟨m, hm⟩ : ∃ m : Nat, tJ ee (i + 1) = ((lo + m : Nat) : Int) := ⟨(tJ ee (i + 1) - lo).toNat, by omega⟩
  have hm' : lo + m ≤ f.length := by omega
  obtain ⟨hn39, hw⟩ := row_ways hf hB lo m hm'
  have hei : ee[i]? = some ee[i] := List.getElem?_eq_getElem hi
  have hgd : ee.getD i [] = ee[i] := by rw [List.getD, hei]; rfl
  have hpg : partG (.mk 6 l s f e ee kids) i = .mk 3 l 0 ((f.take (lo + m)).drop lo) ((ee[i]).map fun x => x - lo) [] [] := by
    rw [partG_eq, if_neg (by decide), if_pos rfl, hgd, hlo, hm]
    rfl
  have hmm : (ee[i].map fun x => x - (lo : Int)).map iv = ee[i].map fun x => iv (x - lo) := by rw [List.map_map]; rfl
  have fin : ∀ a, (Calls Tryz.prog 51 a w fun e' w' => P6Out l (((f.take (lo + m)).drop lo).map fv) ((ee[i]).map fun x => iv (x - lo)) w e' w') → Calls Tryz.prog 51 a w fun e' w' => PartOut w0 B0 (partG (.mk 6 l s f e ee kids) i) w e' w' := by
    intro a ha
    refine ha.mono ?_
    rintro e' w' ⟨vF, vE, rfl, r1, r2, r3⟩
    exact ⟨_, rfl, r3, Or.inr ⟨_, _, _, _, vF, vE, hpg, rfl, r1, by rw [hmm]; exact r2⟩⟩
  have hx9 : ∀ x ∈ ee[i], (lo : Int) ≤ x ∧ x ≤ 1000000000 := fun x hx => by have := z4 x hx; omega
  have hv1 : ∀ u ∈ ((f.take (lo + m)).drop lo).map fv, u.oneCell' = true := by
    intro u hu
    obtain ⟨y, _, rfl⟩ := List.mem_map.1 hu
    rfl
  refine fin _ ?_
  rcases hw with ⟨rfl, rfl, rfl⟩ | ⟨ad, p3, rfl, rfl, rfl, hp3⟩ | ⟨fb, fo, p3, rfl, hn3, hp3, ⟨hm0, hc⟩ | ⟨rfl, hl⟩ | ⟨rfl, hl, hl2⟩⟩
  · rw [seg_nil rfl]
    exact p6_nil w b5 o5 ee.length p5 _ p4 _ p6 l s a4 a6 ee i hi q2 q1 q3 q4 q5 (es := ee[i]) (he := hei) (htl := hlo) (hth := hm) (hx := hx9)
  · rw [seg_nil rfl]
    exact p6_any w b5 o5 ee.length p5 _ p4 _ p6 l s a4 a6 ad p3 ee i hi q2 q1 q3 q4 q5 (_hp3 := hp3) (es := ee[i]) (he := hei) (htl := hlo) (hth := hm) (hx := hx9)
  · exact p6_pos w b5 o5 ee.length p5 _ p4 _ p6 l s a4 a6 fb fo f.length p3 lo m ee i hi q2 q1 q3 q4 q5 (hn3 := hn3) (hn39 := hn39) (_hp3 := hp3) (hm := hm0) (hlo := hm') (es := ee[i]) (he := hei) (htl := hlo) (hth := hm) (hx := hx9) (hv1 := hv1) (hvl := (seg_at hm').1) (hvc := hc)
  · rw [seg_nil rfl]
    exact p6_lit w b5 o5 ee.length p5 _ p4 _ p6 l s a4 a6 fb fo f.length p3 lo ee i hi q2 q1 q3 q4 q5 (_hn3 := hn3) (hn39 := hn39) (hp3 := hp3) (hlo := by omega) (hlp := hl) (es := ee[i]) (he := hei) (htl := hlo) (hth := hm) (hx := hx9)
  · rw [seg_nil rfl, hl2, ← hl]
    exact p6_litE w b5 o5 ee.length p5 _ p4 _ p6 l s a4 a6 fb fo lo ee i hi q2 q1 q3 q4 q5 (hlo9 := by omega) (es := ee[i]) (he := hei) (htl := hlo) (hth := hm) (hx := hx9)
theorem kid_round2 {w wr : World} {B N ck j : Nat} {ak : Option Addr} {css : List (List Value)} {kids : List Gm} (hrk : RowK w B (.slice ak N ck) css) (hcl : css.length = kids.length) (hkid : ∀ (i : Nat) c g, kids[i]? = some g → css[i]? = some c → ARep w B g c) (hN : N = css.length) (hj : j < N) (hwr : Below B w wr) (_hB : B ≤ wr.heap.size) :
    ∃ g kb ko k l s a3 n3 p3 a4 n4 p4 a5 n5 p5 a6 n6 p6, kids[j]? = some g ∧ ak = some ⟨kb, ko, none⟩ ∧ kb < B ∧ wr.cell? ⟨kb, ko + j * 7, none⟩ = some (.int .i64 k) ∧ wr.cell? ⟨kb, ko + j * 7 + 1, none⟩ = some (.int .i64 l) ∧ wr.cell? ⟨kb, ko + j * 7 + 2, none⟩ = some (.int .i64 s) ∧
      wr.cell? ⟨kb, ko + j * 7 + 3, none⟩ = some (.slice a3 n3 p3) ∧ wr.cell? ⟨kb, ko + j * 7 + 4, none⟩ = some (.slice a4 n4 p4) ∧ wr.cell? ⟨kb, ko + j * 7 + 5, none⟩ = some (.slice a5 n5 p5) ∧ wr.cell? ⟨kb, ko + j * 7 + 6, none⟩ = some (.slice a6 n6 p6) ∧
      Hid (ARep w B g [.int .i64 k, .int .i64 l, .int .i64 s, .slice a3 n3 p3, .slice a4 n4 p4, .slice a5 n5 p5, .slice a6 n6 p6]) := by
  obtain ⟨a', c', e1, _, _, _, e5⟩ := hrk
  obtain ⟨kb, ko, hak, hkB, hcell⟩ := e5 (by intro h; rw [h] at hN; simp at hN; omega)
  injection e1 with e1 _ _
  subst e1
  obtain ⟨g, hg⟩ : ∃ g, kids[j]? = some g := ⟨_, List.getElem?_eq_getElem (by omega)⟩
  obtain ⟨cj, hcj⟩ : ∃ cj, css[j]? = some cj := ⟨_, List.getElem?_eq_getElem (by omega)⟩
  have har := hkid j cj g hg hcj
  obtain ⟨s, a3, p3, a4, p4, a5, p5, a6, p6, e⟩ := arep_lit har
  have hc : ∀ i u, cj[i]? = some u → wr.cell? ⟨kb, ko + j * 7 + i, none⟩ = some u := fun i u hu => by rw [hwr.cell (show kb < B from hkB)]; exact hcell j cj hcj i u hu
  rw [e] at hc har
  exact ⟨g, kb, ko, g.kind, g.layout, s, a3, _, p3, a4, _, p4, a5, _, p5, a6, _, p6, hg, hak, hkB, hc 0 _ rfl, hc 1 _ rfl, hc 2 _ rfl, hc 3 _ rfl, hc 4 _ rfl, hc 5 _ rfl, hc 6 _ rfl, Lib.hid har⟩
set_option maxRecDepth 100000 in
set_option maxHeartbeats 2000000 in
theorem part7b (l s : Int) (f : List Nat) (e : List Int) (ee : List (List Int)) (kids : List Gm) (w0 w : World) (B : Nat) (cs : List Value) (h : ARep w0 B (.mk 7 l s f e ee kids) cs) (hw : Below B w0 w) (hB : B ≤ w.heap.size) (i : Nat) (hi : i < kids.length) :
    Calls Tryz.prog 51 #[.agg cs.toArray, .int .i64 (i : Nat)] w fun e' w' => PartOut w0 B (partG (.mk 7 l s f e ee kids) i) w e' w' := by
  obtain ⟨s', a3, p3, a4, p4, a5, p5, a6, p6, hcs⟩ := arep_lit h
  simp only [Gm.kind, Gm.layout, Gm.flat, Gm.ends, Gm.endss, Gm.kids] at hcs
  rw [hcs] at h ⊢
  rw [arep_eq] at h
  obtain ⟨vf, ve, vee, vk, e1, _, _, _, css, hrk, hcl, hkid⟩ := h
  simp only [List.cons.injEq, and_true] at e1
  obtain ⟨_, _, _, _, _, _, e7⟩ := e1
  subst e7
  obtain ⟨n3, hn3⟩ : ∃ n, n = f.length := ⟨_, rfl⟩
  obtain ⟨n4, hn4⟩ : ∃ n, n = e.length := ⟨_, rfl⟩
  obtain ⟨n5, hn5⟩ : ∃ n, n = ee.length := ⟨_, rfl⟩
  obtain ⟨N, hN⟩ : ∃ n, n = kids.length := ⟨_, rfl⟩
  rw [← hn3, ← hn4, ← hn5, ← hN]
  rw [← hN] at hrk hcl hi
  have hNb := rowK_len hrk
  obtain ⟨W2, hW2⟩ : ∃ W2, W2 = (w.alloc (.cells #[.int .i64 7, .int .i64 l, .int .i64 s', .slice a3 n3 p3, .slice a4 n4 p4, .slice a5 n5 p5, .slice a6 N p6] 27)).alloc (.cells #[.int .i64 0, .int .i64 0, .int .i64 0, .slice none 0 0, .slice none 0 0, .slice none 0 0, .slice none 0 0] 27) := ⟨_, rfl⟩
  have hbw : Below w.heap.size w W2 := by rw [hW2]; exact ((Below.refl _ _).alloc (Nat.le_refl _) _).alloc (by simp) _
  obtain ⟨g, kb, ko, gk', gl, gs, b3, m3, r3, b4, m4, r4, b5, m5, r5, b6, m6, r6, hg, rfl, hkB, d0, d1, d2, d3, d4, d5, d6, HAR⟩ := kid_round2 hrk (by rw [hcl, hN]) hkid hcl.symm hi hw hB
  rw [← hbw.cell (show kb < w.heap.size by omega), hW2] at d0
  rw [← hbw.cell (show kb < w.heap.size by omega), hW2] at d1
  rw [← hbw.cell (show kb < w.heap.size by omega), hW2] at d2
  rw [← hbw.cell (show kb < w.heap.size by omega), hW2] at d3
  rw [← hbw.cell (show kb < w.heap.size by omega), hW2] at d4
  rw [← hbw.cell (show kb < w.heap.size by omega), hW2] at d5
  rw [← hbw.cell (show kb < w.heap.size by omega), hW2] at d6
  have HPG : Hid (partG (.mk 7 l s f e ee kids) i = g) := Lib.hid (by simp [partG_eq, List.getD, hg])
  clear hcs hrk hcl hkid hn3 hn4 hn5 hN hbw hg hW2 hw
  go_enter Tryz.func51, Tryz.ntmps51
  go_wp2_with fail
  refine bodyPost_ret (res4 _ _ (w.heap.size + 1) #[.int .i64 gk', .int .i64 gl, .int .i64 gs, .slice b3 m3 r3, .slice b4 m4 r4, .slice b5 m5 r5, .slice b6 m6 r6] rfl ?_ rfl) rfl ?_
  · exact heap_alloc2_new _ _ _
  · have hb : Below w.heap.size w ((w.alloc (.cells #[.int .i64 7, .int .i64 l, .int .i64 s, .slice a3 n3 p3, .slice a4 n4 p4, .slice a5 n5 p5, .slice (some ⟨kb, ko, none⟩) N p6] 27)).alloc (.cells #[.int .i64 gk', .int .i64 gl, .int .i64 gs, .slice b3 m3 r3, .slice b4 m4 r4, .slice b5 m5 r5, .slice b6 m6 r6] 27)) := ((Below.refl _ _).alloc (Nat.le_refl _) _).alloc (by simp) _
    exact ⟨_, rfl, hb, Or.inl (by rw [HPG.out]; exact HAR.out)⟩
theorem partAns (g : Gm) (hX : GoodX g) (w0 w : World) (B : Nat) (cs : List Value) (h : ARep w0 B g cs) (hw : Below B w0 w) (hB : B ≤ w.heap.size) (i : Nat) (hi : i < numP g) : Calls Tryz.prog 51 #[.agg cs.toArray, .int .i64 (i : Nat)] w fun e' w' => PartOut w0 B (partG g i) w e' w' := by
  cases g with
  | mk k l s f e ee kids =>
  by_cases h7 : k = 7
  · subst h7
    exact part7b l s f e ee kids w0 w B cs h hw hB i (by rw [numP_eq] at hi; simpa using hi)
  · have h := ARep.below hw (Nat.le_refl _) _ _ h
    rw [goodX_one h7] at hX
    obtain ⟨_, rfl, _, hk⟩ := hX
    rcases hk with ⟨rfl, _⟩ | ⟨hk, _⟩ | ⟨hk, h1, h2⟩ | ⟨rfl, h1, h2, _⟩
    · rw [numP_eq] at hi; simp at hi
    · rcases hk with rfl | rfl <;> (rw [numP_eq] at hi; simp at hi)
    · have hie : i < e.length := by rw [numP_eq] at hi; rw [if_pos hk] at hi; exact hi
      obtain ⟨lo, m, q1, q2, q3, q4⟩ := seg_of h1 h2 hie
      rw [arep_eq] at h
      obtain ⟨vf, ve, vee, vk, rfl, hf, he, ⟨vs, hvs, hvl, hvi⟩, css, hrk, _⟩ := h
      obtain ⟨a5, p5, h5⟩ := hvs.lit
      obtain ⟨a6, p6, h6⟩ := hrk.lit
      subst h5 h6
      rcases hk with rfl | rfl | rfl
      · exact calls_pe (by rw [partG_eq, if_neg (by decide), if_neg (by decide), if_pos rfl, q4]) (partE3 l s f e w B vf ve hf he hB a5 a6 _ p5 _ p6 i lo m hie q1 q2 q3) w0 B
      · exact calls_pe (by rw [partG_eq, if_neg (by decide), if_neg (by decide), if_neg (by decide), q4]; rfl) (partE4 l s f e w B vf ve hf he hB a5 a6 _ p5 _ p6 i lo m hie q1 q2 q3) w0 B
      · exact calls_pe (by rw [partG_eq, if_neg (by decide), if_neg (by decide), if_neg (by decide), q4]; rfl) (partE5 l s f e w B vf ve hf he hB a5 a6 _ p5 _ p6 i lo m hie q1 q2 q3) w0 B
    · exact part6 l s f e ee [] w B cs h hB _ h1 h2 i (by rw [numP_eq] at hi; simpa using hi) w0 B
end Go.Proofs.YtlmilelopajdiaaGreatDoor

/-
  The statement's side: all parts of good data.
-/
namespace Go.Proofs.YtlmilelopajdiaaGreatDoor
open Go.RowKit

/-- One row of cells more: it lies where the others lie, or in a new block. -/
theorem append_row (w : World) {ops : Array Oper} {rest : List Oper} {o : Oper} {a : Act} {Q : Exit → Act → World → Prop} (hgd : o.guard = none) (s x : Operand) (t : TypeId)
    (ho : o.op = .call { callee := .builtin .append, args := #[s, x], argTypes := #[t, t] })
    (base : Nat) (e : TypeId) (i : TypeInfo) (z : Value) (size bytes : Nat) (ht : Tryz.prog.underlying t = some (.slice e)) (hi : Tryz.prog.info? e = some i) (hz : i.zero = some z)
    (hsize : i.size = size) (hby : i.bytes = bytes) (hzs : z.cells.size = size) (hsz : 0 < size)
    (v : Value) (n : Nat) (xs : List Value) (hs : a.eval s = v) (hown : w.ownsRow base e size v n xs)
    (ad : Addr) (c : Nat) (news : List Value) (hx : a.eval x = .slice (some ad) 1 c) (hl1 : news.length = size) (hnews : ∀ j u, news[j]? = some u → w.cell? (ad.add j) = some u) (h1 : ∀ u ∈ news, u.oneCell' = true)
    (h63 : n + 1 ≤ 1000000000) (hbytes : bytes ≤ 1000) (hbase : base ≤ w.heap.size)
    (h : ∀ v' w', w'.ownsRow base e size v' (n + 1) (xs ++ news) → w.grownBy w' v.ownBlock → (v'.ownBlock = v.ownBlock ∨ ∃ g, v'.ownBlock = some g ∧ w.heap.size ≤ g) → wpList Tryz.prog ops Q rest (a.put o.dst v') w') : wpList Tryz.prog ops Q (o :: rest) a w := by
  have hl2 : news.length = 1 * size := by omega
  have hb2 : (n + 1) * bytes ≤ 140737488355328 := by
    have : (n + 1) * bytes ≤ 1000000000 * 1000 := Nat.mul_le_mul h63 hbytes
    omega
  have hml : n + 1 ≤ maxLen := by unfold maxLen; omega
  have hown' := hown
  have base_of : ∀ {w : World} {b b' : Nat} {n : Nat} {v : Value} {xs : List Value}, w.ownsRow b e size v n xs → b' ≤ b → w.ownsRow b' e size v n xs := by
    intro w b b' n v xs h hb
    obtain ⟨h1, h2 | ⟨g, cap, cur, e1, e2, e3⟩⟩ := h
    · exact ⟨h1, Or.inl h2⟩
    · exact ⟨h1, Or.inr ⟨g, cap, cur, e1, by omega, e3⟩⟩
  obtain ⟨hl, ⟨rfl, rfl⟩ | ⟨g, cap, cur, rfl, hbg, hg, hnc, hcm, hcs, htake⟩⟩ := hown
  · have hx0 : xs = [] := List.eq_nil_of_length_eq_zero (by simpa using hl)
    subst hx0
    refine wpList_append_own w hgd s x t ho w.heap.size e i z size bytes ht hi hz hsize hby hzs hsz (.slice none 0 0) 0 [] hs ⟨by simp, Or.inl ⟨rfl, rfl⟩⟩ ad 1 c news hx hl2 hnews h1 hml hb2 (Nat.le_refl _) fun v' w' r1 r2 r3 => ?_
    refine h v' w' (base_of r1 hbase) r2 (Or.inr ?_)
    rcases r1.2 with ⟨e1, _⟩ | ⟨g, cap, cur, e1, e2, _⟩
    · exact absurd (r3.1 e1).2 (by decide)
    · exact ⟨g, by rw [e1]; rfl, e2⟩
  · by_cases hroom : n + 1 ≤ cap
    · exact wpList_append_fits w hgd s x t ho base e i size ht hi hsize g n cap xs hs hown' ad 1 c news hx hl2 hnews h1 hroom fun w' r1 r2 => h _ w' r1 r2 (Or.inl rfl)
    · refine wpList_append_grows w hgd s x t ho e i z size bytes ht hi hz hsize hby hzs hsz (some ⟨g, 0, none⟩) n cap xs hs (fun h => by cases h) hl (fun b hb j u hj => ?_) ad 1 c news hx hl2 hnews h1 (by omega) hml hb2 fun v' w' r1 r2 => ?_
      · rw [← Option.some.inj hb]
        exact World.ownsRow.cells hown' (g := g) rfl j u hj
      · refine h v' w' (base_of r1 hbase) (grownBy_any r2 _) (Or.inr ?_)
        rcases r1.2 with ⟨_, e1⟩ | ⟨g', cap', cur', e1, e2, _⟩
        · exact absurd e1 (by omega)
        · exact ⟨g', by rw [e1]; rfl, e2⟩
theorem Row.frame {w w' : World} {B B' : Nat} {v : Value} {vals : List Value} (h : Row w B v vals) (hf : ∀ b, b < B → v.ownBlock = some b → w'.heap[b]? = w.heap[b]? ∧ b < B') : Row w' B' v vals := by
  obtain ⟨a, cap, h1, h2, h3, h4, h5⟩ := h
  refine ⟨a, cap, h1, h2, h3, h4, fun hn => ?_⟩
  obtain ⟨b, o, e1, e2, e3⟩ := h5 hn
  obtain ⟨q1, q2⟩ := hf b e2 (by rw [h1, e1]; rfl)
  exact ⟨b, o, e1, q2, fun j u hu => by rw [cell_heap q1]; exact e3 j u hu⟩
theorem Row.own_lt {w : World} {B : Nat} {v : Value} {vals : List Value} (h : Row w B v vals) (hn : vals ≠ []) {b : Nat} (hb : v.ownBlock = some b) : b < B := by
  obtain ⟨a, cap, h1, h2, h3, h4, h5⟩ := h
  obtain ⟨b', o, e1, e2, e3⟩ := h5 hn
  rw [h1, e1] at hb
  have : b' = b := by injection hb
  omega
/-- A part that has been made and lies apart from slice v. -/
def Held (w0 : World) (B0 : Nat) (wr : World) (v : Value) (p : Gm) (c : List Value) : Prop :=
  ARep w0 B0 p c ∨ ∃ k l xs e vF vE, p = .mk k l 0 xs e [] [] ∧ c = [.int .i64 k, .int .i64 l, .int .i64 0, vF, vE, .slice none 0 0, .slice none 0 0] ∧ Row wr wr.heap.size vF (xs.map fv) ∧ Row wr wr.heap.size vE (e.map iv) ∧
    (xs ≠ [] → ∀ b, vF.ownBlock = some b → v.ownBlock ≠ some b) ∧ (e ≠ [] → ∀ b, vE.ownBlock = some b → v.ownBlock ≠ some b)
theorem held_one {_w wr w1 w3 : World} {v v'' : Value} {vF : Value} {vals : List Value} {o : Obj} (h : Row wr wr.heap.size vF vals) (hd : vals ≠ [] → ∀ b, vF.ownBlock = some b → v.ownBlock ≠ some b) (hb1 : Below wr.heap.size wr w1) (hg : (w1.alloc o).grownBy w3 v.ownBlock) (hn : v''.ownBlock = v.ownBlock ∨ ∃ g, v''.ownBlock = some g ∧ (w1.alloc o).heap.size ≤ g) :
    Row w3 w3.heap.size vF vals ∧ (vals ≠ [] → ∀ b, vF.ownBlock = some b → v''.ownBlock ≠ some b) := by
  have hs1 := hb1.size
  have hs2 : (w1.alloc o).heap.size = w1.heap.size + 1 := by simp
  have hs3 := hg.size
  by_cases hv : vals = []
  · subst hv
    obtain ⟨a, cap, h1, h2, h3, h4, h5⟩ := h
    exact ⟨⟨a, cap, h1, h2, h3, h4, fun hn => absurd rfl hn⟩, fun h => absurd rfl h⟩
  · refine ⟨h.frame fun b hb ho => ?_, fun _ b ho => ?_⟩
    · refine ⟨?_, by omega⟩
      rw [hg.block b (by omega) (fun e => hd hv b ho e.symm), Below.heap_alloc w1 o b (by omega), hb1.block b hb]
    · have hlt := h.own_lt hv ho
      rcases hn with e | ⟨g, e1, e2⟩
      · rw [e]; exact hd hv b ho
      · rw [e1]; intro h; injection h with h; omega
theorem held_step {w0 wr w1 w3 : World} {B0 : Nat} {v v'' : Value} {p : Gm} {c : List Value} {o : Obj} (h : Held w0 B0 wr v p c) (hb1 : Below wr.heap.size wr w1) (hg : (w1.alloc o).grownBy w3 v.ownBlock) (hn : v''.ownBlock = v.ownBlock ∨ ∃ g, v''.ownBlock = some g ∧ (w1.alloc o).heap.size ≤ g) : Held w0 B0 w3 v'' p c := by
  rcases h with h | ⟨k, l, xs, e, vF, vE, rfl, rfl, r1, r2, r3, r4⟩
  · exact Or.inl h
  · obtain ⟨q1, q2⟩ := held_one (_w := w0) r1 (fun h => r3 (fun h' => h (by rw [h']; rfl))) hb1 hg hn
    obtain ⟨q3, q4⟩ := held_one (_w := w0) r2 (fun h => r4 (fun h' => h (by rw [h']; rfl))) hb1 hg hn
    exact Or.inr ⟨k, l, xs, e, vF, vE, rfl, rfl, q1, q3, fun h => q2 (fun h' => h (List.map_eq_nil_iff.1 h')), fun h => q4 (fun h' => h (List.map_eq_nil_iff.1 h'))⟩
theorem held_new {w0 wr w1 w3 : World} {B0 : Nat} {v v'' : Value} {p : Gm} {c : List Value} {o : Obj} (h : ARep w0 B0 p c ∨ New wr w1 p c) (_hb1 : Below wr.heap.size wr w1) (hv : ∀ g, v.ownBlock = some g → g < wr.heap.size) (hg : (w1.alloc o).grownBy w3 v.ownBlock) (hn : v''.ownBlock = v.ownBlock ∨ ∃ g, v''.ownBlock = some g ∧ (w1.alloc o).heap.size ≤ g) : Held w0 B0 w3 v'' p c := by
  refine held_step (wr := w1) (w1 := w1) (v := v) ?_ (Below.refl _ _) hg hn
  rcases h with h | ⟨k, l, xs, e, vF, vE, rfl, rfl, ⟨r1, r3⟩, r2, r4⟩
  · exact Or.inl h
  · exact Or.inr ⟨k, l, xs, e, vF, vE, rfl, rfl, r1, r2, fun _ b hb h => by have := hv b h; have := r3 b hb; omega, fun _ b hb h => by have := hv b h; have := r4 b hb; omega⟩
theorem flat7 : ∀ (css : List (List Value)), (∀ c ∈ css, c.length = 7) → css.flatten.length = css.length * 7 ∧ ∀ (j : Nat) cs, css[j]? = some cs → ∀ (i : Nat) u, cs[i]? = some u → css.flatten[j * 7 + i]? = some u := by
  intro css
  induction css with
  | nil => intro _; exact ⟨rfl, fun j cs h => by simp at h⟩
  | cons a t ih =>
    intro h
    have ha := h a (by simp)
    obtain ⟨h1, h2⟩ := ih (fun c hc => h c (by simp [hc]))
    refine ⟨by rw [List.flatten_cons, List.length_append, h1, ha, List.length_cons]; omega, fun j cs hj i u hi => ?_⟩
    rw [List.flatten_cons]
    cases j with
    | zero =>
      simp at hj
      subst hj
      have hil := (List.getElem?_eq_some_iff.1 hi).1
      rw [Nat.zero_mul, Nat.zero_add, List.getElem?_append_left hil]; exact hi
    | succ j =>
      have hj' : t[j]? = some cs := by simpa using hj
      rw [List.getElem?_append_right (by omega), show (j + 1) * 7 + i - a.length = j * 7 + i by omega]
      exact h2 j cs hj' i u hi
theorem rowK_of_own {w : World} {base : Nat} {v : Value} {n : Nat} {css : List (List Value)} (h : w.ownsRow base 27 7 v n css.flatten) (h7 : ∀ c ∈ css, c.length = 7) (hn : css.length = n) (hn9 : n ≤ 1000000000) (h0 : n = 0 → v = .slice none 0 0) : RowK w w.heap.size v css := by
  obtain ⟨hl, h | ⟨g, cap, cur, h1, h2, h3, h4, h5, h6, h7'⟩⟩ := h
  · obtain ⟨h1, rfl⟩ := h
    have : css = [] := List.length_eq_zero_iff.1 hn
    subst this
    exact ⟨none, 0, h1, Nat.le_refl _, ⟨Nat.zero_le _, Nat.zero_le _⟩, fun _ => ⟨rfl, rfl⟩, fun h => absurd rfl h⟩
  · subst hn
    refine ⟨some ⟨g, 0, none⟩, cap, h1, h4, ⟨hn9, by unfold maxLen at h5; omega⟩, fun h => (by cases h), fun _ => ⟨g, 0, rfl, lt_of_block h3, fun j cs hj i u hi => ?_⟩⟩
    have hq := (flat7 css h7).2 j cs hj i u hi
    rw [Lib.cell_of_heap h3, Nat.zero_add]
    rw [← h7', List.getElem?_take] at hq
    split at hq
    · rw [← hq]; simp
    · cases hq
theorem Held.arep {w0 wr : World} {B0 : Nat} {v : Value} {p : Gm} {c : List Value} (h : Held w0 B0 wr v p c) (hw : Below B0 w0 wr) (hB : B0 ≤ wr.heap.size) : ARep wr wr.heap.size p c := by
  rcases h with h | ⟨k, l, xs, e, vF, vE, rfl, rfl, r1, r2, _⟩
  · exact ARep.below hw hB p c h
  · rw [arep_eq]
    have hn : ∀ x : List Value, x = [] → Row wr wr.heap.size (.slice none 0 0) x := by
      rintro x rfl
      exact ⟨none, 0, rfl, Nat.le_refl _, ⟨Nat.zero_le _, Nat.zero_le _⟩, fun _ => ⟨rfl, rfl⟩, fun h => absurd rfl h⟩
    exact ⟨_, _, _, _, rfl, r1, r2, ⟨[], hn _ rfl, rfl, fun i x es h => by simp at h⟩, [], ⟨none, 0, rfl, Nat.le_refl _, ⟨Nat.zero_le _, Nat.zero_le _⟩, fun _ => ⟨rfl, rfl⟩, fun h => absurd rfl h⟩, rfl, fun i c g h => by simp at h⟩
theorem part_lit {w0 w w' : World} {B0 : Nat} {p : Gm} {c : List Value} (h : ARep w0 B0 p c ∨ New w w' p c) : ∃ k l s a3 n3 p3 a4 n4 p4 a5 n5 p5 a6 n6 p6, c = [.int .i64 k, .int .i64 l, .int .i64 s, .slice a3 n3 p3, .slice a4 n4 p4, .slice a5 n5 p5, .slice a6 n6 p6] := by
  rcases h with h | ⟨k, l, xs, e, vF, vE, rfl, rfl, ⟨r1, _⟩, r2, _⟩
  · obtain ⟨s, a3, p3, a4, p4, a5, p5, a6, p6, e⟩ := arep_lit h
    exact ⟨_, _, _, _, _, _, _, _, _, _, _, _, _, _, _, e⟩
  · obtain ⟨a, c, h1⟩ := r1.lit
    obtain ⟨a', c', h2⟩ := r2.lit
    rw [h1, h2]
    exact ⟨_, _, _, _, _, _, _, _, _, _, _, _, _, _, _, rfl⟩
/-- What Parts answers. -/
def PartsAns (g : Gm) (w : World) (e : Ending) (w' : World) : Prop := ∃ v css, e = .returned v ∧ RowK w' w'.heap.size v css ∧ css.length = numP g ∧ (∀ (i : Nat) c, css[i]? = some c → ARep w' w'.heap.size (partG g i) c) ∧ Below w.heap.size w w'
theorem info27 : (Tryz.prog.info? 27).map (fun i => (i.zero, i.size, i.bytes)) = some (some (.agg #[.int .i64 0, .int .i64 0, .int .i64 0, .slice none 0 0, .slice none 0 0, .slice none 0 0, .slice none 0 0]), 7, 120) := by kernel_rfl

theorem own_slice7 {w : World} {base : Nat} {v : Value} {n : Nat} {xs : List Value} (h : w.ownsRow base 27 7 v (n + 1) xs) : ∃ a c, v = .slice a (n + 1) c := by
  obtain ⟨_, ⟨h1, h2⟩ | ⟨g, cap, _, h1, _⟩⟩ := h
  · omega
  · exact ⟨_, _, h1⟩
theorem parts_step {g : Gm} {w0 W1 wr w3 w4 : World} {B b1 j : Nat} {a9 a' : Option Addr} {c9 c' : Nat} {css : List (List Value)} {c news : List Value} {o : Obj}
    (hs : css.length = j ∧ (∀ c ∈ css, c.length = 7) ∧ (j = 0 → Value.slice a9 j c9 = .slice none 0 0)) (ho : wr.ownsRow (b1 + 1) 27 7 (.slice a9 j c9) j css.flatten) (hb : Below W1.heap.size W1 wr) (hh : ∀ (i : Nat) c, css[i]? = some c → Held w0 B wr (.slice a9 j c9) (partG g i) c)
    (hc : c = news) (hp : ARep w0 B (partG g j) c ∨ New wr w3 (partG g j) c) (hb3 : Below wr.heap.size wr w3) (hss : b1 + 1 ≤ wr.heap.size ∧ wr.heap.size ≤ w3.heap.size) (hsz : W1.heap.size = b1 + 1)
    (hown : w4.ownsRow (b1 + 1) 27 7 (.slice a' (j + 1) c') (j + 1) (css.flatten ++ news)) (hg : (w3.alloc o).grownBy w4 (Value.slice a9 j c9).ownBlock) (hf : (Value.slice a' (j + 1) c').ownBlock = (Value.slice a9 j c9).ownBlock ∨ ∃ g, (Value.slice a' (j + 1) c').ownBlock = some g ∧ (w3.alloc o).heap.size ≤ g) (h7 : news.length = 7) :
    ((css ++ [c]).length = j + 1 ∧ (∀ x ∈ css ++ [c], x.length = 7) ∧ (j + 1 = 0 → Value.slice a' (j + 1) c' = .slice none 0 0)) ∧ w4.ownsRow (b1 + 1) 27 7 (.slice a' (j + 1) c') (j + 1) (css ++ [c]).flatten ∧ Below W1.heap.size W1 w4 ∧ ∀ (i : Nat) x, (css ++ [c])[i]? = some x → Held w0 B w4 (.slice a' (j + 1) c') (partG g i) x := by
  obtain ⟨s1, s2, _⟩ := hs
  have hlt : ∀ g, (Value.slice a9 j c9).ownBlock = some g → b1 + 1 ≤ g ∧ g < wr.heap.size := by
    intro g hg
    rcases ho.2 with ⟨e1, _⟩ | ⟨g', cap, cur, e1, e2, e3, _⟩
    · rw [e1] at hg; cases hg
    · rw [e1] at hg
      have hg : g' = g := by injection hg
      subst hg
      exact ⟨e2, lt_of_block e3⟩
  refine ⟨⟨by rw [List.length_append, s1]; rfl, fun x hx => ?_, fun h => by omega⟩, ?_, ?_, fun i x hx => ?_⟩
  · rcases List.mem_append.1 hx with h | h
    · exact s2 x h
    · rw [List.mem_singleton.1 h, hc]; exact h7
  · rw [List.flatten_append, hc]; simpa using hown
  · exact ((hb.trans (hb3.mono hb.size)).alloc (by have := hb3.size; have := hb.size; omega) o).grown hg (by have := hb3.size; have := hb.size; simp; omega) (fun k hk => by have := hlt k hk; omega)
  · by_cases hi : i < css.length
    · rw [List.getElem?_append_left hi] at hx
      exact held_step (hh i x hx) hb3 hg hf
    · have hi2 := (List.getElem?_eq_some_iff.1 hx).1
      rw [List.length_append] at hi2
      simp only [List.length_cons, List.length_nil] at hi2
      have hij : i = j := by omega
      subst hij
      rw [List.getElem?_append_right (by omega), s1, Nat.sub_self] at hx
      have hx : c = x := by simpa using hx
      rw [← hx]
      exact held_new hp hb3 (fun g hg => (hlt g hg).2) hg hf

set_option maxRecDepth 100000 in
set_option maxHeartbeats 4000000 in
theorem partsAns (g : Gm) (hX : GoodX g) (hF : Fit g) (w : World) (B : Nat) (cs : List Value) (h : ARep w B g cs) (hB : B ≤ w.heap.size) (hN9 : numP g ≤ 1000000) : Calls Tryz.prog 23 #[.agg cs.toArray] w fun e w' => PartsAns g w e w' := by
  obtain ⟨i0, hi0, hz0, hz1, hz2⟩ := info_parts info27
  obtain ⟨s', a3, p3, a4, p4, a5, p5, a6, p6, hcs⟩ := arep_lit h
  obtain ⟨k, hk⟩ : ∃ k, k = g.kind := ⟨_, rfl⟩
  obtain ⟨l, hl⟩ : ∃ k, k = g.layout := ⟨_, rfl⟩
  obtain ⟨n3, hn3⟩ : ∃ k, k = g.flat.length := ⟨_, rfl⟩
  obtain ⟨n4, hn4⟩ : ∃ k, k = g.ends.length := ⟨_, rfl⟩
  obtain ⟨n5, hn5⟩ : ∃ k, k = g.endss.length := ⟨_, rfl⟩
  obtain ⟨n6, hn6⟩ : ∃ k, k = g.kids.length := ⟨_, rfl⟩
  rw [← hk, ← hl, ← hn3, ← hn4, ← hn5, ← hn6] at hcs
  obtain ⟨N, hN⟩ : ∃ N, N = numP g := ⟨_, rfl⟩
  obtain ⟨W1, hW1⟩ : ∃ W1, W1 = w.alloc (.cells #[.int .i64 k, .int .i64 l, .int .i64 s', .slice a3 n3 p3, .slice a4 n4 p4, .slice a5 n5 p5, .slice a6 n6 p6] 27) := ⟨_, rfl⟩
  have hbw : Below w.heap.size w W1 := by rw [hW1]; exact (Below.refl _ _).alloc (Nat.le_refl _) _
  have hsz : W1.heap.size = w.heap.size + 1 := by rw [hW1]; simp
  have hbx : Box W1 w.heap.size k l s' (.slice a3 n3 p3) (.slice a4 n4 p4) (.slice a5 n5 p5) (.slice a6 n6 p6) := by unfold Box; rw [hW1]; exact heap_alloc_new w _
  have HNP : Hid (Calls Tryz.prog 50 #[.agg #[.int .i64 k, .int .i64 l, .int .i64 s', .slice a3 n3 p3, .slice a4 n4 p4, .slice a5 n5 p5, .slice a6 n6 p6]] W1 fun e w' => e = .returned (.int .i64 (N : Nat)) ∧ Below W1.heap.size W1 w') := Lib.hid (by
    have := numParts g hF W1 B cs (ARep.below (hbw.mono hB) (Nat.le_refl _) g cs h) 
    rw [hcs, ← hN] at this
    exact this)
  have HPA : Hid (∀ w', Below w.heap.size w w' → ∀ i : Nat, i < N → Calls Tryz.prog 51 #[.agg #[.int .i64 k, .int .i64 l, .int .i64 s', .slice a3 n3 p3, .slice a4 n4 p4, .slice a5 n5 p5, .slice a6 n6 p6], .int .i64 (i : Nat)] w' fun e w'' => PartOut w B (partG g i) w' e w'') := Lib.hid (by
    intro w' hb i hi
    have := partAns g hX w w' B cs h (hb.mono hB) (by have := hb.size; omega) i (by omega)
    rw [hcs] at this
    exact this)
  rw [hcs]
  have hN9' : N ≤ 1000000 := by omega
  have HZ := Lib.hid hz0
  have HNN := Lib.hid hN
  have q0 := hbx.c0
  have q1 := hbx.c1
  have q2 := hbx.c2
  have q3 := hbx.c3
  have q4 := hbx.c4
  have q5 := hbx.c5
  have q6 := hbx.c6
  obtain ⟨b1, hb1⟩ : ∃ b1, b1 = w.heap.size := ⟨_, rfl⟩
  have HSZ : Hid (W1.heap.size = b1 + 1) := Lib.hid (by rw [hb1]; exact hsz)
  rw [← hb1] at q0 q1 q2 q3 q4 q5 q6 hbx
  have HBX := Lib.hid hbx
  have HBW := Lib.hid hbw
  have HBB := Lib.hid hB
  clear hk hl hn3 hn4 hn5 hn6 hcs hbx hbw h hN hz0 hB hsz hX hF hN9
  go_enter Tryz.func23, Tryz.ntmps23
  go_wp2_with fail
  rw [← hW1, ← hb1]
  have HB1 := Lib.hid hb1
  clear hW1 hb1
  refine HNP.out.mono ?_
  rintro en w2 ⟨rfl, hb2⟩
  have HB2 := Lib.hid hb2
  clear hb2 q0 q1 q2 q3 q4 q5 q6
  go_wp2_with fail
  go_loopg [3, 7] N (fun gk v3 v7 wr => ∃ (j : Nat) (a9 : Option Addr) (c9 : Nat) (css : List (List Value)), j + gk = N ∧ v3 = .slice a9 j c9 ∧ v7 = .int .i64 j ∧ Hid (css.length = j ∧ (∀ c ∈ css, c.length = 7) ∧ (j = 0 → Value.slice a9 j c9 = .slice none 0 0)) ∧ Hid (wr.ownsRow (b1 + 1) 27 7 (.slice a9 j c9) j css.flatten) ∧ Hid (Below W1.heap.size W1 wr) ∧ Hid (∀ (i : Nat) c, css[i]? = some c → Held w B wr (.slice a9 j c9) (partG g i) c))
  case atStart => exact ⟨0, none, 0, [], by omega, rfl, rfl, Lib.hid ⟨rfl, fun c hc => by simp at hc, fun _ => rfl⟩, Lib.hid ⟨rfl, Or.inl ⟨rfl, rfl⟩⟩, HB2, Lib.hid (fun i c hc => by simp at hc)⟩
  case round =>
    obtain ⟨j, a9, c9, css, hj, rfl, rfl, HS, HO, HBr, HH⟩ := hrel
    by_cases hjN : j < N
    · have hbxr := HBX.out.below HBr.out (by have := HSZ.out; omega)
      have r0 := hbxr.c0
      have r1 := hbxr.c1
      have r2 := hbxr.c2
      have r3 := hbxr.c3
      have r4 := hbxr.c4
      have r5 := hbxr.c5
      have r6 := hbxr.c6
      have hwr : Below w.heap.size w wr := HBW.out.trans (HBr.out.mono (by have := HSZ.out; have := HB1.out; omega))
      have HC := Lib.hid (HPA.out wr hwr j hjN)
      have HWR := Lib.hid hwr
      clear hbxr hwr HNP HPA HBX
      go_wp2_with fail
      refine HC.out.mono ?_
      rintro en w3 ⟨c, rfl, hb3, hpc⟩
      obtain ⟨k', l', s'', b3, m3, r3', b4, m4, r4', b5, m5, r5', b6, m6, r6', hc⟩ := part_lit hpc
      have HC7 : Hid (c.length = 7) := Lib.hid (by rw [hc]; rfl)
      have HPC := Lib.hid hpc
      have HB3 := Lib.hid hb3
      have HCC := Lib.hid hc
      rw [hc]
      clear hc hpc hb3 HC
      have HOW : Hid ((w3.alloc (.cells #[.int .i64 k', .int .i64 l', .int .i64 s'', .slice b3 m3 r3', .slice b4 m4 r4', .slice b5 m5 r5', .slice b6 m6 r6'] 27)).ownsRow (b1 + 1) 27 7 (.slice a9 j c9) j css.flatten) := Lib.hid ((own_below HO.out HB3.out).alloc _)
      have HNW : Hid (∀ (j : Nat) (u : Value), ([.int .i64 k', .int .i64 l', .int .i64 s'', .slice b3 m3 r3', .slice b4 m4 r4', .slice b5 m5 r5', .slice b6 m6 r6'] : List Value)[j]? = some u → (w3.alloc (.cells #[.int .i64 k', .int .i64 l', .int .i64 s'', .slice b3 m3 r3', .slice b4 m4 r4', .slice b5 m5 r5', .slice b6 m6 r6'] 27)).cell? ((⟨w3.heap.size, 0, none⟩ : Addr).add j) = some u) := Lib.hid (by
        intro j u hu
        rw [Go.WideShapes.add_plain, Lib.cell_of_heap (heap_alloc_new w3 _), Nat.zero_add]
        simpa using hu)
      have HON : Hid (∀ u ∈ ([.int .i64 k', .int .i64 l', .int .i64 s'', .slice b3 m3 r3', .slice b4 m4 r4', .slice b5 m5 r5', .slice b6 m6 r6'] : List Value), u.oneCell' = true) := Lib.hid (by
        intro u hu
        simp only [List.mem_cons, List.not_mem_nil, or_false] at hu
        rcases hu with rfl | rfl | rfl | rfl | rfl | rfl | rfl <;> rfl)
      have HSS : Hid (b1 + 1 ≤ wr.heap.size ∧ wr.heap.size ≤ w3.heap.size) := Lib.hid ⟨by have := HBr.out.size; have := HSZ.out; omega, HB3.out.size⟩
      go_wp2_with (at_builtin; refine append_row _ rfl _ _ 25 rfl (b1 + 1) 27 i0 (.agg #[.int .i64 0, .int .i64 0, .int .i64 0, .slice none 0 0, .slice none 0 0, .slice none 0 0, .slice none 0 0]) 7 120 Tryz.underlying25 hi0 HZ.out hz1 hz2 rfl (by decide) (.slice a9 j c9) j css.flatten rfl HOW.out ⟨w3.heap.size, 0, none⟩ 1 _ rfl rfl HNW.out HON.out (by omega) (by omega) (by have := HSS.out; simp; omega) ?_; intro v'' w4 hown hgrow hfresh; obtain ⟨a', c', hv⟩ : ∃ a c, v'' = .slice a (j + 1) c := own_slice7 hown; subst hv; obtain ⟨z1, z2, z3, z4⟩ := parts_step (g := g) HS.out HO.out HBr.out HH.out HCC.out HPC.out HB3.out HSS.out HSZ.out hown hgrow hfresh rfl; clear hown hgrow hfresh)
      go_roundg (gk - 1)
      case measure => omega
      case rel => exact ⟨j + 1, a', c', _, by omega, rfl, by go_num, Lib.hid z1, Lib.hid z2, Lib.hid z3, Lib.hid z4⟩
    · obtain rfl : j = N := by omega
      clear HNP HPA HBX
      go_wp2_with fail
      go_ret
      have hwr : Below w.heap.size w wr := HBW.out.trans (HBr.out.mono (by have := HSZ.out; have := HB1.out; omega))
      obtain ⟨y1, y2, y3⟩ := HS.out
      exact ⟨_, css, rfl, rowK_of_own HO.out y2 y1 (by omega) y3, by rw [← HNN.out, y1], fun i c hc => (HH.out i c hc).arep (hwr.mono HBB.out) (by have := hwr.size; have := HBB.out; omega), hwr⟩
end Go.Proofs.YtlmilelopajdiaaGreatDoor
