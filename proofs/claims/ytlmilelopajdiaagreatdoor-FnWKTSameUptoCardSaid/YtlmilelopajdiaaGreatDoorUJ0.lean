/-
  The statement's side: a part of a geometry with ends (kind 3).
-/
import Derived.Test.YtlmilelopajdiaaGreatDoorUH9
namespace Go.Proofs.YtlmilelopajdiaaGreatDoor
open Go.RowKit

set_option maxRecDepth 100000 in
set_option maxHeartbeats 4000000 in
theorem pE30_pos (w : World) (eb eo n4 p4 n5 p5 n6 p6 : Nat) (l s : Int) (a5 a6 : Option Addr) (fb fo n3 p3 : Nat) (m : Nat) (vals : List Value) (hi : 0 < n4) (_hi9 : n4 ≤ 1000000000) (_hn4 : n4 ≤ p4) (_hp4 : p4 ≤ 9223372036854775807) (hm : 0 < m) (hlo : 0 + m ≤ n3) (hn3 : n3 ≤ p3) (hn39 : n3 ≤ 1000000000) (_hp3 : p3 ≤ 9223372036854775807) (hcx : w.cell? ⟨eb, eo, none⟩ = some (.int .i64 ((m : Nat) : Int))) (heb : eb < w.heap.size) (hvl : vals.length = m) (hvc : ∀ w', Below w.heap.size w w' → ∀ (j : Nat) (u : Value), vals[j]? = some u → w'.cell? ((⟨fb, fo, none⟩ : Addr).add j) = some u) :
    Calls Tryz.prog 51 #[.agg #[.int .i64 3, .int .i64 l, .int .i64 s, .slice (some ⟨fb, fo, none⟩) n3 p3, .slice (some ⟨eb, eo, none⟩) n4 p4, .slice a5 n5 p5, .slice a6 n6 p6], .int .i64 0] w fun e' w' => PEOut 8 l vals w e' w' := by
  have hvl9 : m ≤ 1000000000 := by omega
  have HVC := Lib.hid hvc
  have HVL := Lib.hid hvl
  clear hvc hvl
  have HK : Hid (∀ W, Below (w.heap.size + 1) (w.alloc (.cells #[.int .i64 3, .int .i64 l, .int .i64 s, .slice (some ⟨fb, fo, none⟩) n3 p3, .slice (some ⟨eb, eo, none⟩) n4 p4, .slice a5 n5 p5, .slice a6 n6 p6] 27)) W → W.cell? ⟨w.heap.size, 1, none⟩ = some (.int .i64 l) ∧ W.cell? ⟨w.heap.size, 3, none⟩ = some (.slice (some ⟨fb, fo, none⟩) n3 p3) ∧ W.cell? ⟨w.heap.size, 4, none⟩ = some (.slice (some ⟨eb, eo, none⟩) n4 p4) ∧ W.cell? ⟨eb, eo, none⟩ = some (.int .i64 ((m : Nat) : Int))) := Lib.hid (by
    intro W hb
    have hn := heap_alloc_new w (.cells #[.int .i64 3, .int .i64 l, .int .i64 s, .slice (some ⟨fb, fo, none⟩) n3 p3, .slice (some ⟨eb, eo, none⟩) n4 p4, .slice a5 n5 p5, .slice a6 n6 p6] 27)
    refine ⟨?_, ?_, ?_, ?_⟩
    · rw [hb.cell (by show w.heap.size < _; omega), Lib.cell_of_heap hn]; rfl
    · rw [hb.cell (by show w.heap.size < _; omega), Lib.cell_of_heap hn]; rfl
    · rw [hb.cell (by show w.heap.size < _; omega), Lib.cell_of_heap hn]; rfl
    · rw [hb.cell (by show eb < _; omega), cell_heap (Below.heap_alloc w _ eb heb)]; exact hcx)
  go_enter Tryz.func51, Tryz.ntmps51
  go_upto_region 27 with (fail)
  go_region_held_law (fun W => W.cell? ⟨w.heap.size, 1, none⟩ = some (.int .i64 l) ∧ W.cell? ⟨w.heap.size, 3, none⟩ = some (.slice (some ⟨fb, fo, none⟩) n3 p3) ∧ W.cell? ⟨w.heap.size, 4, none⟩ = some (.slice (some ⟨eb, eo, none⟩) n4 p4) ∧ W.cell? ⟨eb, eo, none⟩ = some (.int .i64 ((m : Nat) : Int))) (exact HK.out _ (by go_grown)) ((refine step_append_lit rfl (.tmp 94) (.tmp 103) rfl (w.heap.size + 1 + 1) (by simp [Act.eval]) ⟨fb, fo, none⟩ m p3 vals (by simp [Act.eval]) HVL.out (HVC.out _ (by go_grown)) hm (by omega) ?_; intro C cap' hcp1 hcp2 hC))
  all_goals
    go_wp2_with fail
    refine bodyPost_ret (res4 _ _ (w.heap.size + 1) #[.int .i64 8, .int .i64 l, .int .i64 0, .slice (some ⟨w.heap.size + 1 + 1 + 1, 0, none⟩) m cap', .slice none 0 0, .slice none 0 0, .slice none 0 0] rfl (heap4P ..) rfl) rfl ?_
    refine ⟨_, rfl, ⟨?_, fun b hb => (by have hb : w.heap.size + 1 + 1 + 1 = b := (by injection hb); omega)⟩, by go_grown⟩
    refine ⟨some ⟨w.heap.size + 1 + 1 + 1, 0, none⟩, cap', by rw [HVL.out], by rw [HVL.out]; exact hcp1, ⟨by rw [HVL.out]; exact hvl9, hcp2⟩, (fun h => by cases h), fun _ => ⟨_, _, rfl, lt_of_block (heap4C ..), fun j u hu => ?_⟩⟩
    have := hC j u hu
    rw [Nat.zero_add, cell4C]
    exact this

set_option maxRecDepth 100000 in
set_option maxHeartbeats 4000000 in
theorem pE3S_pos (w : World) (eb eo n4 p4 n5 p5 n6 p6 : Nat) (l s : Int) (a5 a6 : Option Addr) (fb fo n3 p3 : Nat) (j : Nat) (lo : Nat) (m : Nat) (vals : List Value) (hi : j + 1 < n4) (_hi9 : n4 ≤ 1000000000) (hn4 : n4 ≤ p4) (hp4 : p4 ≤ 9223372036854775807) (hm : 0 < m) (hlo : lo + m ≤ n3) (hn3 : n3 ≤ p3) (hn39 : n3 ≤ 1000000000) (hp3 : p3 ≤ 9223372036854775807) (hcx : w.cell? ⟨eb, eo + (j + 1), none⟩ = some (.int .i64 ((lo + m : Nat) : Int))) (heb : eb < w.heap.size) (hcp : w.cell? ⟨eb, eo + j, none⟩ = some (.int .i64 ((lo : Nat) : Int))) (hvl : vals.length = m) (hvc : ∀ w', Below w.heap.size w w' → ∀ (j : Nat) (u : Value), vals[j]? = some u → w'.cell? ((⟨fb, fo + lo, none⟩ : Addr).add j) = some u) :
    Calls Tryz.prog 51 #[.agg #[.int .i64 3, .int .i64 l, .int .i64 s, .slice (some ⟨fb, fo, none⟩) n3 p3, .slice (some ⟨eb, eo, none⟩) n4 p4, .slice a5 n5 p5, .slice a6 n6 p6], .int .i64 ((j + 1 : Nat) : Int)] w fun e' w' => PEOut 8 l vals w e' w' := by
  have hvl9 : m ≤ 1000000000 := by omega
  have HVC := Lib.hid hvc
  have HVL := Lib.hid hvl
  clear hvc hvl
  have hj1 : ((j + 1 : Nat) : Int) - 1 = (j : Int) := by omega
  have hj2 : ((j + 1 : Nat) : Int) > 0 := by omega
  have HK : Hid (∀ W, Below (w.heap.size + 1) (w.alloc (.cells #[.int .i64 3, .int .i64 l, .int .i64 s, .slice (some ⟨fb, fo, none⟩) n3 p3, .slice (some ⟨eb, eo, none⟩) n4 p4, .slice a5 n5 p5, .slice a6 n6 p6] 27)) W → W.cell? ⟨w.heap.size, 1, none⟩ = some (.int .i64 l) ∧ W.cell? ⟨w.heap.size, 3, none⟩ = some (.slice (some ⟨fb, fo, none⟩) n3 p3) ∧ W.cell? ⟨w.heap.size, 4, none⟩ = some (.slice (some ⟨eb, eo, none⟩) n4 p4) ∧ W.cell? ⟨eb, eo + (j + 1), none⟩ = some (.int .i64 ((lo + m : Nat) : Int))) := Lib.hid (by
    intro W hb
    have hn := heap_alloc_new w (.cells #[.int .i64 3, .int .i64 l, .int .i64 s, .slice (some ⟨fb, fo, none⟩) n3 p3, .slice (some ⟨eb, eo, none⟩) n4 p4, .slice a5 n5 p5, .slice a6 n6 p6] 27)
    refine ⟨?_, ?_, ?_, ?_⟩
    · rw [hb.cell (by show w.heap.size < _; omega), Lib.cell_of_heap hn]; rfl
    · rw [hb.cell (by show w.heap.size < _; omega), Lib.cell_of_heap hn]; rfl
    · rw [hb.cell (by show w.heap.size < _; omega), Lib.cell_of_heap hn]; rfl
    · rw [hb.cell (by show eb < _; omega), cell_heap (Below.heap_alloc w _ eb heb)]; exact hcx)
  go_enter Tryz.func51, Tryz.ntmps51
  go_upto_region 27 with (fail)
  go_region_held_law (fun W => W.cell? ⟨w.heap.size, 1, none⟩ = some (.int .i64 l) ∧ W.cell? ⟨w.heap.size, 3, none⟩ = some (.slice (some ⟨fb, fo, none⟩) n3 p3) ∧ W.cell? ⟨w.heap.size, 4, none⟩ = some (.slice (some ⟨eb, eo, none⟩) n4 p4) ∧ W.cell? ⟨eb, eo + (j + 1), none⟩ = some (.int .i64 ((lo + m : Nat) : Int))) (exact HK.out _ (by go_grown)) ((refine step_append_lit rfl (.tmp 94) (.tmp 103) rfl (w.heap.size + 1 + 1) (by simp [Act.eval]) ⟨fb, fo + lo, none⟩ m (p3 - lo) vals (by simp [Act.eval]) HVL.out (HVC.out _ (by go_grown)) hm (by omega) ?_; intro C cap' hcp1 hcp2 hC))
  all_goals
    go_wp2_with fail
    refine bodyPost_ret (res4 _ _ (w.heap.size + 1) #[.int .i64 8, .int .i64 l, .int .i64 0, .slice (some ⟨w.heap.size + 1 + 1 + 1, 0, none⟩) m cap', .slice none 0 0, .slice none 0 0, .slice none 0 0] rfl (heap4P ..) rfl) rfl ?_
    refine ⟨_, rfl, ⟨?_, fun b hb => (by have hb : w.heap.size + 1 + 1 + 1 = b := (by injection hb); omega)⟩, by go_grown⟩
    refine ⟨some ⟨w.heap.size + 1 + 1 + 1, 0, none⟩, cap', by rw [HVL.out], by rw [HVL.out]; exact hcp1, ⟨by rw [HVL.out]; exact hvl9, hcp2⟩, (fun h => by cases h), fun _ => ⟨_, _, rfl, lt_of_block (heap4C ..), fun j u hu => ?_⟩⟩
    have := hC j u hu
    rw [Nat.zero_add, cell4C]
    exact this
end Go.Proofs.YtlmilelopajdiaaGreatDoor

/-
  The statement's side: a part of a geometry with ends (kind 4).
-/
namespace Go.Proofs.YtlmilelopajdiaaGreatDoor
open Go.RowKit

set_option maxRecDepth 100000 in
set_option maxHeartbeats 4000000 in
theorem pE40_pos (w : World) (eb eo n4 p4 n5 p5 n6 p6 : Nat) (l s : Int) (a5 a6 : Option Addr) (fb fo n3 p3 : Nat) (m : Nat) (vals : List Value) (hi : 0 < n4) (_hi9 : n4 ≤ 1000000000) (_hn4 : n4 ≤ p4) (_hp4 : p4 ≤ 9223372036854775807) (hm : 0 < m) (hlo : 0 + m ≤ n3) (hn3 : n3 ≤ p3) (hn39 : n3 ≤ 1000000000) (_hp3 : p3 ≤ 9223372036854775807) (hcx : w.cell? ⟨eb, eo, none⟩ = some (.int .i64 ((m : Nat) : Int))) (heb : eb < w.heap.size) (hvl : vals.length = m) (hvc : ∀ w', Below w.heap.size w w' → ∀ (j : Nat) (u : Value), vals[j]? = some u → w'.cell? ((⟨fb, fo, none⟩ : Addr).add j) = some u) :
    Calls Tryz.prog 51 #[.agg #[.int .i64 4, .int .i64 l, .int .i64 s, .slice (some ⟨fb, fo, none⟩) n3 p3, .slice (some ⟨eb, eo, none⟩) n4 p4, .slice a5 n5 p5, .slice a6 n6 p6], .int .i64 0] w fun e' w' => PEOut 1 l vals w e' w' := by
  have hvl9 : m ≤ 1000000000 := by omega
  have HVC := Lib.hid hvc
  have HVL := Lib.hid hvl
  clear hvc hvl
  have HK : Hid (∀ W, Below (w.heap.size + 1) (w.alloc (.cells #[.int .i64 4, .int .i64 l, .int .i64 s, .slice (some ⟨fb, fo, none⟩) n3 p3, .slice (some ⟨eb, eo, none⟩) n4 p4, .slice a5 n5 p5, .slice a6 n6 p6] 27)) W → W.cell? ⟨w.heap.size, 1, none⟩ = some (.int .i64 l) ∧ W.cell? ⟨w.heap.size, 3, none⟩ = some (.slice (some ⟨fb, fo, none⟩) n3 p3) ∧ W.cell? ⟨w.heap.size, 4, none⟩ = some (.slice (some ⟨eb, eo, none⟩) n4 p4) ∧ W.cell? ⟨eb, eo, none⟩ = some (.int .i64 ((m : Nat) : Int))) := Lib.hid (by
    intro W hb
    have hn := heap_alloc_new w (.cells #[.int .i64 4, .int .i64 l, .int .i64 s, .slice (some ⟨fb, fo, none⟩) n3 p3, .slice (some ⟨eb, eo, none⟩) n4 p4, .slice a5 n5 p5, .slice a6 n6 p6] 27)
    refine ⟨?_, ?_, ?_, ?_⟩
    · rw [hb.cell (by show w.heap.size < _; omega), Lib.cell_of_heap hn]; rfl
    · rw [hb.cell (by show w.heap.size < _; omega), Lib.cell_of_heap hn]; rfl
    · rw [hb.cell (by show w.heap.size < _; omega), Lib.cell_of_heap hn]; rfl
    · rw [hb.cell (by show eb < _; omega), cell_heap (Below.heap_alloc w _ eb heb)]; exact hcx)
  go_enter Tryz.func51, Tryz.ntmps51
  go_wp2_with fail
  refine (kidOf 4 (by decide) _).mono ?_
  rintro en w' ⟨rfl, rfl⟩
  go_upto_region 27 with (fail)
  go_region_held_law (fun W => W.cell? ⟨w.heap.size, 1, none⟩ = some (.int .i64 l) ∧ W.cell? ⟨w.heap.size, 3, none⟩ = some (.slice (some ⟨fb, fo, none⟩) n3 p3) ∧ W.cell? ⟨w.heap.size, 4, none⟩ = some (.slice (some ⟨eb, eo, none⟩) n4 p4) ∧ W.cell? ⟨eb, eo, none⟩ = some (.int .i64 ((m : Nat) : Int))) (exact HK.out _ (by go_grown)) ((refine step_append_lit rfl (.tmp 94) (.tmp 103) rfl (w.heap.size + 1 + 1) (by simp [Act.eval]) ⟨fb, fo, none⟩ m p3 vals (by simp [Act.eval]) HVL.out (HVC.out _ (by go_grown)) hm (by omega) ?_; intro C cap' hcp1 hcp2 hC))
  all_goals
    go_wp2_with fail
    refine bodyPost_ret (res4 _ _ (w.heap.size + 1) #[.int .i64 1, .int .i64 l, .int .i64 0, .slice (some ⟨w.heap.size + 1 + 1 + 1, 0, none⟩) m cap', .slice none 0 0, .slice none 0 0, .slice none 0 0] rfl (heap4P ..) rfl) rfl ?_
    refine ⟨_, rfl, ⟨?_, fun b hb => (by have hb : w.heap.size + 1 + 1 + 1 = b := (by injection hb); omega)⟩, by go_grown⟩
    refine ⟨some ⟨w.heap.size + 1 + 1 + 1, 0, none⟩, cap', by rw [HVL.out], by rw [HVL.out]; exact hcp1, ⟨by rw [HVL.out]; exact hvl9, hcp2⟩, (fun h => by cases h), fun _ => ⟨_, _, rfl, lt_of_block (heap4C ..), fun j u hu => ?_⟩⟩
    have := hC j u hu
    rw [Nat.zero_add, cell4C]
    exact this

set_option maxRecDepth 100000 in
set_option maxHeartbeats 4000000 in
theorem pE4S_pos (w : World) (eb eo n4 p4 n5 p5 n6 p6 : Nat) (l s : Int) (a5 a6 : Option Addr) (fb fo n3 p3 : Nat) (j : Nat) (lo : Nat) (m : Nat) (vals : List Value) (hi : j + 1 < n4) (_hi9 : n4 ≤ 1000000000) (hn4 : n4 ≤ p4) (hp4 : p4 ≤ 9223372036854775807) (hm : 0 < m) (hlo : lo + m ≤ n3) (hn3 : n3 ≤ p3) (hn39 : n3 ≤ 1000000000) (hp3 : p3 ≤ 9223372036854775807) (hcx : w.cell? ⟨eb, eo + (j + 1), none⟩ = some (.int .i64 ((lo + m : Nat) : Int))) (heb : eb < w.heap.size) (hcp : w.cell? ⟨eb, eo + j, none⟩ = some (.int .i64 ((lo : Nat) : Int))) (hvl : vals.length = m) (hvc : ∀ w', Below w.heap.size w w' → ∀ (j : Nat) (u : Value), vals[j]? = some u → w'.cell? ((⟨fb, fo + lo, none⟩ : Addr).add j) = some u) :
    Calls Tryz.prog 51 #[.agg #[.int .i64 4, .int .i64 l, .int .i64 s, .slice (some ⟨fb, fo, none⟩) n3 p3, .slice (some ⟨eb, eo, none⟩) n4 p4, .slice a5 n5 p5, .slice a6 n6 p6], .int .i64 ((j + 1 : Nat) : Int)] w fun e' w' => PEOut 1 l vals w e' w' := by
  have hvl9 : m ≤ 1000000000 := by omega
  have HVC := Lib.hid hvc
  have HVL := Lib.hid hvl
  clear hvc hvl
  have hj1 : ((j + 1 : Nat) : Int) - 1 = (j : Int) := by omega
  have hj2 : ((j + 1 : Nat) : Int) > 0 := by omega
  have HK : Hid (∀ W, Below (w.heap.size + 1) (w.alloc (.cells #[.int .i64 4, .int .i64 l, .int .i64 s, .slice (some ⟨fb, fo, none⟩) n3 p3, .slice (some ⟨eb, eo, none⟩) n4 p4, .slice a5 n5 p5, .slice a6 n6 p6] 27)) W → W.cell? ⟨w.heap.size, 1, none⟩ = some (.int .i64 l) ∧ W.cell? ⟨w.heap.size, 3, none⟩ = some (.slice (some ⟨fb, fo, none⟩) n3 p3) ∧ W.cell? ⟨w.heap.size, 4, none⟩ = some (.slice (some ⟨eb, eo, none⟩) n4 p4) ∧ W.cell? ⟨eb, eo + (j + 1), none⟩ = some (.int .i64 ((lo + m : Nat) : Int))) := Lib.hid (by
    intro W hb
    have hn := heap_alloc_new w (.cells #[.int .i64 4, .int .i64 l, .int .i64 s, .slice (some ⟨fb, fo, none⟩) n3 p3, .slice (some ⟨eb, eo, none⟩) n4 p4, .slice a5 n5 p5, .slice a6 n6 p6] 27)
    refine ⟨?_, ?_, ?_, ?_⟩
    · rw [hb.cell (by show w.heap.size < _; omega), Lib.cell_of_heap hn]; rfl
    · rw [hb.cell (by show w.heap.size < _; omega), Lib.cell_of_heap hn]; rfl
    · rw [hb.cell (by show w.heap.size < _; omega), Lib.cell_of_heap hn]; rfl
    · rw [hb.cell (by show eb < _; omega), cell_heap (Below.heap_alloc w _ eb heb)]; exact hcx)
  go_enter Tryz.func51, Tryz.ntmps51
  go_wp2_with fail
  refine (kidOf 4 (by decide) _).mono ?_
  rintro en w' ⟨rfl, rfl⟩
  go_upto_region 27 with (fail)
  go_region_held_law (fun W => W.cell? ⟨w.heap.size, 1, none⟩ = some (.int .i64 l) ∧ W.cell? ⟨w.heap.size, 3, none⟩ = some (.slice (some ⟨fb, fo, none⟩) n3 p3) ∧ W.cell? ⟨w.heap.size, 4, none⟩ = some (.slice (some ⟨eb, eo, none⟩) n4 p4) ∧ W.cell? ⟨eb, eo + (j + 1), none⟩ = some (.int .i64 ((lo + m : Nat) : Int))) (exact HK.out _ (by go_grown)) ((refine step_append_lit rfl (.tmp 94) (.tmp 103) rfl (w.heap.size + 1 + 1) (by simp [Act.eval]) ⟨fb, fo + lo, none⟩ m (p3 - lo) vals (by simp [Act.eval]) HVL.out (HVC.out _ (by go_grown)) hm (by omega) ?_; intro C cap' hcp1 hcp2 hC))
  all_goals
    go_wp2_with fail
    refine bodyPost_ret (res4 _ _ (w.heap.size + 1) #[.int .i64 1, .int .i64 l, .int .i64 0, .slice (some ⟨w.heap.size + 1 + 1 + 1, 0, none⟩) m cap', .slice none 0 0, .slice none 0 0, .slice none 0 0] rfl (heap4P ..) rfl) rfl ?_
    refine ⟨_, rfl, ⟨?_, fun b hb => (by have hb : w.heap.size + 1 + 1 + 1 = b := (by injection hb); omega)⟩, by go_grown⟩
    refine ⟨some ⟨w.heap.size + 1 + 1 + 1, 0, none⟩, cap', by rw [HVL.out], by rw [HVL.out]; exact hcp1, ⟨by rw [HVL.out]; exact hvl9, hcp2⟩, (fun h => by cases h), fun _ => ⟨_, _, rfl, lt_of_block (heap4C ..), fun j u hu => ?_⟩⟩
    have := hC j u hu
    rw [Nat.zero_add, cell4C]
    exact this
end Go.Proofs.YtlmilelopajdiaaGreatDoor

/-
  The statement's side: a part of a geometry with ends (kind 5).
-/
namespace Go.Proofs.YtlmilelopajdiaaGreatDoor
open Go.RowKit

set_option maxRecDepth 100000 in
set_option maxHeartbeats 4000000 in
theorem pE50_pos (w : World) (eb eo n4 p4 n5 p5 n6 p6 : Nat) (l s : Int) (a5 a6 : Option Addr) (fb fo n3 p3 : Nat) (m : Nat) (vals : List Value) (hi : 0 < n4) (_hi9 : n4 ≤ 1000000000) (_hn4 : n4 ≤ p4) (_hp4 : p4 ≤ 9223372036854775807) (hm : 0 < m) (hlo : 0 + m ≤ n3) (hn3 : n3 ≤ p3) (hn39 : n3 ≤ 1000000000) (_hp3 : p3 ≤ 9223372036854775807) (hcx : w.cell? ⟨eb, eo, none⟩ = some (.int .i64 ((m : Nat) : Int))) (heb : eb < w.heap.size) (hvl : vals.length = m) (hvc : ∀ w', Below w.heap.size w w' → ∀ (j : Nat) (u : Value), vals[j]? = some u → w'.cell? ((⟨fb, fo, none⟩ : Addr).add j) = some u) :
    Calls Tryz.prog 51 #[.agg #[.int .i64 5, .int .i64 l, .int .i64 s, .slice (some ⟨fb, fo, none⟩) n3 p3, .slice (some ⟨eb, eo, none⟩) n4 p4, .slice a5 n5 p5, .slice a6 n6 p6], .int .i64 0] w fun e' w' => PEOut 2 l vals w e' w' := by
  have hvl9 : m ≤ 1000000000 := by omega
  have HVC := Lib.hid hvc
  have HVL := Lib.hid hvl
  clear hvc hvl
  have HK : Hid (∀ W, Below (w.heap.size + 1) (w.alloc (.cells #[.int .i64 5, .int .i64 l, .int .i64 s, .slice (some ⟨fb, fo, none⟩) n3 p3, .slice (some ⟨eb, eo, none⟩) n4 p4, .slice a5 n5 p5, .slice a6 n6 p6] 27)) W → W.cell? ⟨w.heap.size, 1, none⟩ = some (.int .i64 l) ∧ W.cell? ⟨w.heap.size, 3, none⟩ = some (.slice (some ⟨fb, fo, none⟩) n3 p3) ∧ W.cell? ⟨w.heap.size, 4, none⟩ = some (.slice (some ⟨eb, eo, none⟩) n4 p4) ∧ W.cell? ⟨eb, eo, none⟩ = some (.int .i64 ((m : Nat) : Int))) := Lib.hid (by
    intro W hb
    have hn := heap_alloc_new w (.cells #[.int .i64 5, .int .i64 l, .int .i64 s, .slice (some ⟨fb, fo, none⟩) n3 p3, .slice (some ⟨eb, eo, none⟩) n4 p4, .slice a5 n5 p5, .slice a6 n6 p6] 27)
    refine ⟨?_, ?_, ?_, ?_⟩
    · rw [hb.cell (by show w.heap.size < _; omega), Lib.cell_of_heap hn]; rfl
    · rw [hb.cell (by show w.heap.size < _; omega), Lib.cell_of_heap hn]; rfl
    · rw [hb.cell (by show w.heap.size < _; omega), Lib.cell_of_heap hn]; rfl
    · rw [hb.cell (by show eb < _; omega), cell_heap (Below.heap_alloc w _ eb heb)]; exact hcx)
  go_enter Tryz.func51, Tryz.ntmps51
  go_wp2_with fail
  refine (kidOf 5 (by decide) _).mono ?_
  rintro en w' ⟨rfl, rfl⟩
  go_upto_region 27 with (fail)
  go_region_held_law (fun W => W.cell? ⟨w.heap.size, 1, none⟩ = some (.int .i64 l) ∧ W.cell? ⟨w.heap.size, 3, none⟩ = some (.slice (some ⟨fb, fo, none⟩) n3 p3) ∧ W.cell? ⟨w.heap.size, 4, none⟩ = some (.slice (some ⟨eb, eo, none⟩) n4 p4) ∧ W.cell? ⟨eb, eo, none⟩ = some (.int .i64 ((m : Nat) : Int))) (exact HK.out _ (by go_grown)) ((refine step_append_lit rfl (.tmp 94) (.tmp 103) rfl (w.heap.size + 1 + 1) (by simp [Act.eval]) ⟨fb, fo, none⟩ m p3 vals (by simp [Act.eval]) HVL.out (HVC.out _ (by go_grown)) hm (by omega) ?_; intro C cap' hcp1 hcp2 hC))
  all_goals
    go_wp2_with fail
    refine bodyPost_ret (res4 _ _ (w.heap.size + 1) #[.int .i64 2, .int .i64 l, .int .i64 0, .slice (some ⟨w.heap.size + 1 + 1 + 1, 0, none⟩) m cap', .slice none 0 0, .slice none 0 0, .slice none 0 0] rfl (heap4P ..) rfl) rfl ?_
    refine ⟨_, rfl, ⟨?_, fun b hb => (by have hb : w.heap.size + 1 + 1 + 1 = b := (by injection hb); omega)⟩, by go_grown⟩
    refine ⟨some ⟨w.heap.size + 1 + 1 + 1, 0, none⟩, cap', by rw [HVL.out], by rw [HVL.out]; exact hcp1, ⟨by rw [HVL.out]; exact hvl9, hcp2⟩, (fun h => by cases h), fun _ => ⟨_, _, rfl, lt_of_block (heap4C ..), fun j u hu => ?_⟩⟩
    have := hC j u hu
    rw [Nat.zero_add, cell4C]
    exact this

set_option maxRecDepth 100000 in
set_option maxHeartbeats 4000000 in
theorem pE5S_pos (w : World) (eb eo n4 p4 n5 p5 n6 p6 : Nat) (l s : Int) (a5 a6 : Option Addr) (fb fo n3 p3 : Nat) (j : Nat) (lo : Nat) (m : Nat) (vals : List Value) (hi : j + 1 < n4) (_hi9 : n4 ≤ 1000000000) (hn4 : n4 ≤ p4) (hp4 : p4 ≤ 9223372036854775807) (hm : 0 < m) (hlo : lo + m ≤ n3) (hn3 : n3 ≤ p3) (hn39 : n3 ≤ 1000000000) (hp3 : p3 ≤ 9223372036854775807) (hcx : w.cell? ⟨eb, eo + (j + 1), none⟩ = some (.int .i64 ((lo + m : Nat) : Int))) (heb : eb < w.heap.size) (hcp : w.cell? ⟨eb, eo + j, none⟩ = some (.int .i64 ((lo : Nat) : Int))) (hvl : vals.length = m) (hvc : ∀ w', Below w.heap.size w w' → ∀ (j : Nat) (u : Value), vals[j]? = some u → w'.cell? ((⟨fb, fo + lo, none⟩ : Addr).add j) = some u) :
    Calls Tryz.prog 51 #[.agg #[.int .i64 5, .int .i64 l, .int .i64 s, .slice (some ⟨fb, fo, none⟩) n3 p3, .slice (some ⟨eb, eo, none⟩) n4 p4, .slice a5 n5 p5, .slice a6 n6 p6], .int .i64 ((j + 1 : Nat) : Int)] w fun e' w' => PEOut 2 l vals w e' w' := by
  have hvl9 : m ≤ 1000000000 := by omega
  have HVC := Lib.hid hvc
  have HVL := Lib.hid hvl
  clear hvc hvl
  have hj1 : ((j + 1 : Nat) : Int) - 1 = (j : Int) := by omega
  have hj2 : ((j + 1 : Nat) : Int) > 0 := by omega
  have HK : Hid (∀ W, Below (w.heap.size + 1) (w.alloc (.cells #[.int .i64 5, .int .i64 l, .int .i64 s, .slice (some ⟨fb, fo, none⟩) n3 p3, .slice (some ⟨eb, eo, none⟩) n4 p4, .slice a5 n5 p5, .slice a6 n6 p6] 27)) W → W.cell? ⟨w.heap.size, 1, none⟩ = some (.int .i64 l) ∧ W.cell? ⟨w.heap.size, 3, none⟩ = some (.slice (some ⟨fb, fo, none⟩) n3 p3) ∧ W.cell? ⟨w.heap.size, 4, none⟩ = some (.slice (some ⟨eb, eo, none⟩) n4 p4) ∧ W.cell? ⟨eb, eo + (j + 1), none⟩ = some (.int .i64 ((lo + m : Nat) : Int))) := Lib.hid (by
    intro W hb
    have hn := heap_alloc_new w (.cells #[.int .i64 5, .int .i64 l, .int .i64 s, .slice (some ⟨fb, fo, none⟩) n3 p3, .slice (some ⟨eb, eo, none⟩) n4 p4, .slice a5 n5 p5, .slice a6 n6 p6] 27)
    refine ⟨?_, ?_, ?_, ?_⟩
    · rw [hb.cell (by show w.heap.size < _; omega), Lib.cell_of_heap hn]; rfl
    · rw [hb.cell (by show w.heap.size < _; omega), Lib.cell_of_heap hn]; rfl
    · rw [hb.cell (by show w.heap.size < _; omega), Lib.cell_of_heap hn]; rfl
    · rw [hb.cell (by show eb < _; omega), cell_heap (Below.heap_alloc w _ eb heb)]; exact hcx)
  go_enter Tryz.func51, Tryz.ntmps51
  go_wp2_with fail
  refine (kidOf 5 (by decide) _).mono ?_
  rintro en w' ⟨rfl, rfl⟩
  go_upto_region 27 with (fail)
  go_region_held_law (fun W => W.cell? ⟨w.heap.size, 1, none⟩ = some (.int .i64 l) ∧ W.cell? ⟨w.heap.size, 3, none⟩ = some (.slice (some ⟨fb, fo, none⟩) n3 p3) ∧ W.cell? ⟨w.heap.size, 4, none⟩ = some (.slice (some ⟨eb, eo, none⟩) n4 p4) ∧ W.cell? ⟨eb, eo + (j + 1), none⟩ = some (.int .i64 ((lo + m : Nat) : Int))) (exact HK.out _ (by go_grown)) ((refine step_append_lit rfl (.tmp 94) (.tmp 103) rfl (w.heap.size + 1 + 1) (by simp [Act.eval]) ⟨fb, fo + lo, none⟩ m (p3 - lo) vals (by simp [Act.eval]) HVL.out (HVC.out _ (by go_grown)) hm (by omega) ?_; intro C cap' hcp1 hcp2 hC))
  all_goals
    go_wp2_with fail
    refine bodyPost_ret (res4 _ _ (w.heap.size + 1) #[.int .i64 2, .int .i64 l, .int .i64 0, .slice (some ⟨w.heap.size + 1 + 1 + 1, 0, none⟩) m cap', .slice none 0 0, .slice none 0 0, .slice none 0 0] rfl (heap4P ..) rfl) rfl ?_
    refine ⟨_, rfl, ⟨?_, fun b hb => (by have hb : w.heap.size + 1 + 1 + 1 = b := (by injection hb); omega)⟩, by go_grown⟩
    refine ⟨some ⟨w.heap.size + 1 + 1 + 1, 0, none⟩, cap', by rw [HVL.out], by rw [HVL.out]; exact hcp1, ⟨by rw [HVL.out]; exact hvl9, hcp2⟩, (fun h => by cases h), fun _ => ⟨_, _, rfl, lt_of_block (heap4C ..), fun j u hu => ?_⟩⟩
    have := hC j u hu
    rw [Nat.zero_add, cell4C]
    exact this
end Go.Proofs.YtlmilelopajdiaaGreatDoor
