/-
  The statement's side: a part of a geometry with ends (kind 4).
-/
import Derived.Test.YtlmilelopajdiaaGreatDoorUH9
namespace Go.Proofs.YtlmilelopajdiaaGreatDoor
open Go.RowKit

set_option maxRecDepth 100000 in
set_option maxHeartbeats 4000000 in
theorem pE40_lit (w : World) (eb eo n4 p4 n5 p5 n6 p6 : Nat) (l s : Int) (a5 a6 : Option Addr) (fb fo n3 p3 : Nat) (hi : 0 < n4) (_hi9 : n4 ≤ 1000000000) (_hn4 : n4 ≤ p4) (_hp4 : p4 ≤ 9223372036854775807) (_hlo : 0 ≤ n3) (_hn3 : n3 ≤ p3) (_hn39 : n3 ≤ 1000000000) (_hp3 : p3 ≤ 9223372036854775807) (hcx : w.cell? ⟨eb, eo, none⟩ = some (.int .i64 0)) (heb : eb < w.heap.size) :
    Calls Tryz.prog 51 #[.agg #[.int .i64 4, .int .i64 l, .int .i64 s, .slice (some ⟨fb, fo, none⟩) n3 p3, .slice (some ⟨eb, eo, none⟩) n4 p4, .slice a5 n5 p5, .slice a6 n6 p6], .int .i64 0] w fun e' w' => PEOut 1 l [] w e' w' := by
  have HK : Hid (∀ W, Below (w.heap.size + 1) (w.alloc (.cells #[.int .i64 4, .int .i64 l, .int .i64 s, .slice (some ⟨fb, fo, none⟩) n3 p3, .slice (some ⟨eb, eo, none⟩) n4 p4, .slice a5 n5 p5, .slice a6 n6 p6] 27)) W → W.cell? ⟨w.heap.size, 1, none⟩ = some (.int .i64 l) ∧ W.cell? ⟨w.heap.size, 3, none⟩ = some (.slice (some ⟨fb, fo, none⟩) n3 p3) ∧ W.cell? ⟨w.heap.size, 4, none⟩ = some (.slice (some ⟨eb, eo, none⟩) n4 p4) ∧ W.cell? ⟨eb, eo, none⟩ = some (.int .i64 0)) := Lib.hid (by
    intro W hb
    have hn := heap_alloc_new w (.cells #[.int .i64 4, .int .i64 l, .int .i64 s, .slice (some ⟨fb, fo, none⟩) n3 p3, .slice (some ⟨eb, eo, none⟩) n4 p4, .slice a5 n5 p5, .slice a6 n6 p6] 27)
    refine ⟨?_, ?_, ?_, ?_⟩
    · rw [hb.cell (by show w.heap.size < _; omega), Lib.cell_of_heap hn]; rfl
    · rw [hb.cell (by show w.heap.size < _; omega), Lib.cell_of_heap hn]; rfl
    · rw [hb.cell (by show w.heap.size < _; omega), Lib.cell_of_heap hn]; rfl
    · rw [hb.cell (by show eb < _; omega), cell_heap (Below.heap_alloc w _ eb heb)]; exact hcx)
  go_enter Tryz.func51, Tryz.ntmps51
  go_wp2_with fail
  refine (kidOf 4 (by decide) _).mono ?_
  rintro en w' ⟨rfl, rfl⟩
  go_upto_region 27 with (fail)
  go_region_held_law (fun W => W.cell? ⟨w.heap.size, 1, none⟩ = some (.int .i64 l) ∧ W.cell? ⟨w.heap.size, 3, none⟩ = some (.slice (some ⟨fb, fo, none⟩) n3 p3) ∧ W.cell? ⟨w.heap.size, 4, none⟩ = some (.slice (some ⟨eb, eo, none⟩) n4 p4) ∧ W.cell? ⟨eb, eo, none⟩ = some (.int .i64 0)) (exact HK.out _ (by go_grown)) (fail)
  all_goals
    go_wp2_with fail
    refine bodyPost_ret (res4 _ _ (w.heap.size + 1) #[.int .i64 1, .int .i64 l, .int .i64 0, .slice (some ⟨w.heap.size + 1 + 1, 0, none⟩) 0 0, .slice none 0 0, .slice none 0 0, .slice none 0 0] rfl (heap3P ..) rfl) rfl ?_
    exact ⟨_, rfl, ⟨⟨some _, 0, rfl, Nat.le_refl _, ⟨Nat.zero_le _, Nat.zero_le _⟩, (fun h => by cases h), fun h => absurd rfl h⟩, fun b hb => (by have hb : w.heap.size + 1 + 1 = b := (by injection hb); omega)⟩, by go_grown⟩

set_option maxRecDepth 100000 in
set_option maxHeartbeats 4000000 in
theorem pE40_nil (w : World) (eb eo n4 p4 n5 p5 n6 p6 : Nat) (l s : Int) (a5 a6 : Option Addr) (hi : 0 < n4) (_hi9 : n4 ≤ 1000000000) (_hn4 : n4 ≤ p4) (_hp4 : p4 ≤ 9223372036854775807) (hcx : w.cell? ⟨eb, eo, none⟩ = some (.int .i64 0)) (heb : eb < w.heap.size) :
    Calls Tryz.prog 51 #[.agg #[.int .i64 4, .int .i64 l, .int .i64 s, .slice none 0 0, .slice (some ⟨eb, eo, none⟩) n4 p4, .slice a5 n5 p5, .slice a6 n6 p6], .int .i64 0] w fun e' w' => PEOut 1 l [] w e' w' := by
  have HK : Hid (∀ W, Below (w.heap.size + 1) (w.alloc (.cells #[.int .i64 4, .int .i64 l, .int .i64 s, .slice none 0 0, .slice (some ⟨eb, eo, none⟩) n4 p4, .slice a5 n5 p5, .slice a6 n6 p6] 27)) W → W.cell? ⟨w.heap.size, 1, none⟩ = some (.int .i64 l) ∧ W.cell? ⟨w.heap.size, 3, none⟩ = some (.slice none 0 0) ∧ W.cell? ⟨w.heap.size, 4, none⟩ = some (.slice (some ⟨eb, eo, none⟩) n4 p4) ∧ W.cell? ⟨eb, eo, none⟩ = some (.int .i64 0)) := Lib.hid (by
    intro W hb
    have hn := heap_alloc_new w (.cells #[.int .i64 4, .int .i64 l, .int .i64 s, .slice none 0 0, .slice (some ⟨eb, eo, none⟩) n4 p4, .slice a5 n5 p5, .slice a6 n6 p6] 27)
    refine ⟨?_, ?_, ?_, ?_⟩
    · rw [hb.cell (by show w.heap.size < _; omega), Lib.cell_of_heap hn]; rfl
    · rw [hb.cell (by show w.heap.size < _; omega), Lib.cell_of_heap hn]; rfl
    · rw [hb.cell (by show w.heap.size < _; omega), Lib.cell_of_heap hn]; rfl
    · rw [hb.cell (by show eb < _; omega), cell_heap (Below.heap_alloc w _ eb heb)]; exact hcx)
  go_enter Tryz.func51, Tryz.ntmps51
  go_wp2_with fail
  refine (kidOf 4 (by decide) _).mono ?_
  rintro en w' ⟨rfl, rfl⟩
  go_upto_region 27 with (fail)
  go_region_held_law (fun W => W.cell? ⟨w.heap.size, 1, none⟩ = some (.int .i64 l) ∧ W.cell? ⟨w.heap.size, 3, none⟩ = some (.slice none 0 0) ∧ W.cell? ⟨w.heap.size, 4, none⟩ = some (.slice (some ⟨eb, eo, none⟩) n4 p4) ∧ W.cell? ⟨eb, eo, none⟩ = some (.int .i64 0)) (exact HK.out _ (by go_grown)) (fail)
  all_goals
    go_wp2_with fail
    refine bodyPost_ret (res4 _ _ (w.heap.size + 1) #[.int .i64 1, .int .i64 l, .int .i64 0, .slice (some ⟨w.heap.size + 1 + 1, 0, none⟩) 0 0, .slice none 0 0, .slice none 0 0, .slice none 0 0] rfl (heap3P ..) rfl) rfl ?_
    exact ⟨_, rfl, ⟨⟨some _, 0, rfl, Nat.le_refl _, ⟨Nat.zero_le _, Nat.zero_le _⟩, (fun h => by cases h), fun h => absurd rfl h⟩, fun b hb => (by have hb : w.heap.size + 1 + 1 = b := (by injection hb); omega)⟩, by go_grown⟩

set_option maxRecDepth 100000 in
set_option maxHeartbeats 4000000 in
theorem pE40_any (w : World) (eb eo n4 p4 n5 p5 n6 p6 : Nat) (l s : Int) (a5 a6 : Option Addr) (ad : Addr) (p3 : Nat) (hi : 0 < n4) (_hi9 : n4 ≤ 1000000000) (_hn4 : n4 ≤ p4) (_hp4 : p4 ≤ 9223372036854775807) (_hp3 : p3 ≤ 9223372036854775807) (hcx : w.cell? ⟨eb, eo, none⟩ = some (.int .i64 0)) (heb : eb < w.heap.size) :
    Calls Tryz.prog 51 #[.agg #[.int .i64 4, .int .i64 l, .int .i64 s, .slice (some ad) 0 p3, .slice (some ⟨eb, eo, none⟩) n4 p4, .slice a5 n5 p5, .slice a6 n6 p6], .int .i64 0] w fun e' w' => PEOut 1 l [] w e' w' := by
  have HK : Hid (∀ W, Below (w.heap.size + 1) (w.alloc (.cells #[.int .i64 4, .int .i64 l, .int .i64 s, .slice (some ad) 0 p3, .slice (some ⟨eb, eo, none⟩) n4 p4, .slice a5 n5 p5, .slice a6 n6 p6] 27)) W → W.cell? ⟨w.heap.size, 1, none⟩ = some (.int .i64 l) ∧ W.cell? ⟨w.heap.size, 3, none⟩ = some (.slice (some ad) 0 p3) ∧ W.cell? ⟨w.heap.size, 4, none⟩ = some (.slice (some ⟨eb, eo, none⟩) n4 p4) ∧ W.cell? ⟨eb, eo, none⟩ = some (.int .i64 0)) := Lib.hid (by
    intro W hb
    have hn := heap_alloc_new w (.cells #[.int .i64 4, .int .i64 l, .int .i64 s, .slice (some ad) 0 p3, .slice (some ⟨eb, eo, none⟩) n4 p4, .slice a5 n5 p5, .slice a6 n6 p6] 27)
    refine ⟨?_, ?_, ?_, ?_⟩
    · rw [hb.cell (by show w.heap.size < _; omega), Lib.cell_of_heap hn]; rfl
    · rw [hb.cell (by show w.heap.size < _; omega), Lib.cell_of_heap hn]; rfl
    · rw [hb.cell (by show w.heap.size < _; omega), Lib.cell_of_heap hn]; rfl
    · rw [hb.cell (by show eb < _; omega), cell_heap (Below.heap_alloc w _ eb heb)]; exact hcx)
  go_enter Tryz.func51, Tryz.ntmps51
  go_wp2_with fail
  refine (kidOf 4 (by decide) _).mono ?_
  rintro en w' ⟨rfl, rfl⟩
  go_upto_region 27 with (fail)
  go_region_held_law (fun W => W.cell? ⟨w.heap.size, 1, none⟩ = some (.int .i64 l) ∧ W.cell? ⟨w.heap.size, 3, none⟩ = some (.slice (some ad) 0 p3) ∧ W.cell? ⟨w.heap.size, 4, none⟩ = some (.slice (some ⟨eb, eo, none⟩) n4 p4) ∧ W.cell? ⟨eb, eo, none⟩ = some (.int .i64 0)) (exact HK.out _ (by go_grown)) (fail)
  all_goals
    go_wp2_with fail
    refine bodyPost_ret (res4 _ _ (w.heap.size + 1) #[.int .i64 1, .int .i64 l, .int .i64 0, .slice (some ⟨w.heap.size + 1 + 1, 0, none⟩) 0 0, .slice none 0 0, .slice none 0 0, .slice none 0 0] rfl (heap3P ..) rfl) rfl ?_
    exact ⟨_, rfl, ⟨⟨some _, 0, rfl, Nat.le_refl _, ⟨Nat.zero_le _, Nat.zero_le _⟩, (fun h => by cases h), fun h => absurd rfl h⟩, fun b hb => (by have hb : w.heap.size + 1 + 1 = b := (by injection hb); omega)⟩, by go_grown⟩

set_option maxRecDepth 100000 in
set_option maxHeartbeats 4000000 in
theorem pE4S_lit (w : World) (eb eo n4 p4 n5 p5 n6 p6 : Nat) (l s : Int) (a5 a6 : Option Addr) (fb fo n3 p3 : Nat) (j : Nat) (lo : Nat) (hi : j + 1 < n4) (_hi9 : n4 ≤ 1000000000) (hn4 : n4 ≤ p4) (hp4 : p4 ≤ 9223372036854775807) (_hlo : lo ≤ n3) (hlp : lo < p3) (_hn3 : n3 ≤ p3) (_hn39 : n3 ≤ 1000000000) (_hp3 : p3 ≤ 9223372036854775807) (hcx : w.cell? ⟨eb, eo + (j + 1), none⟩ = some (.int .i64 ((lo : Nat) : Int))) (heb : eb < w.heap.size) (hcp : w.cell? ⟨eb, eo + j, none⟩ = some (.int .i64 ((lo : Nat) : Int))) :
    Calls Tryz.prog 51 #[.agg #[.int .i64 4, .int .i64 l, .int .i64 s, .slice (some ⟨fb, fo, none⟩) n3 p3, .slice (some ⟨eb, eo, none⟩) n4 p4, .slice a5 n5 p5, .slice a6 n6 p6], .int .i64 ((j + 1 : Nat) : Int)] w fun e' w' => PEOut 1 l [] w e' w' := by
  have hj1 : ((j + 1 : Nat) : Int) - 1 = (j : Int) := by omega
  have hj2 : ((j + 1 : Nat) : Int) > 0 := by omega
  have HK : Hid (∀ W, Below (w.heap.size + 1) (w.alloc (.cells #[.int .i64 4, .int .i64 l, .int .i64 s, .slice (some ⟨fb, fo, none⟩) n3 p3, .slice (some ⟨eb, eo, none⟩) n4 p4, .slice a5 n5 p5, .slice a6 n6 p6] 27)) W → W.cell? ⟨w.heap.size, 1, none⟩ = some (.int .i64 l) ∧ W.cell? ⟨w.heap.size, 3, none⟩ = some (.slice (some ⟨fb, fo, none⟩) n3 p3) ∧ W.cell? ⟨w.heap.size, 4, none⟩ = some (.slice (some ⟨eb, eo, none⟩) n4 p4) ∧ W.cell? ⟨eb, eo + (j + 1), none⟩ = some (.int .i64 ((lo : Nat) : Int))) := Lib.hid (by
    intro W hb
    have hn := heap_alloc_new w (.cells #[.int .i64 4, .int .i64 l, .int .i64 s, .slice (some ⟨fb, fo, none⟩) n3 p3, .slice (some ⟨eb, eo, none⟩) n4 p4, .slice a5 n5 p5, .slice a6 n6 p6] 27)
    refine ⟨?_, ?_, ?_, ?_⟩
    · rw [hb.cell (by show w.heap.size < _; omega), Lib.cell_of_heap hn]; rfl
    · rw [hb.cell (by show w.heap.size < _; omega), Lib.cell_of_heap hn]; rfl
    · rw [hb.cell (by show w.heap.size < _; omega), Lib.cell_of_heap hn]; rfl
    · rw [hb.cell (by show eb < _; omega), cell_heap (Below.heap_alloc w _ eb heb)]; exact hcx)
  go_enter Tryz.func51, Tryz.ntmps51
  go_wp2_with fail
  refine (kidOf 4 (by decide) _).mono ?_
  rintro en w' ⟨rfl, rfl⟩
  go_upto_region 27 with (fail)
  go_region_held_law (fun W => W.cell? ⟨w.heap.size, 1, none⟩ = some (.int .i64 l) ∧ W.cell? ⟨w.heap.size, 3, none⟩ = some (.slice (some ⟨fb, fo, none⟩) n3 p3) ∧ W.cell? ⟨w.heap.size, 4, none⟩ = some (.slice (some ⟨eb, eo, none⟩) n4 p4) ∧ W.cell? ⟨eb, eo + (j + 1), none⟩ = some (.int .i64 ((lo : Nat) : Int))) (exact HK.out _ (by go_grown)) (fail)
  all_goals
    go_wp2_with fail
    refine bodyPost_ret (res4 _ _ (w.heap.size + 1) #[.int .i64 1, .int .i64 l, .int .i64 0, .slice (some ⟨w.heap.size + 1 + 1, 0, none⟩) 0 0, .slice none 0 0, .slice none 0 0, .slice none 0 0] rfl (heap3P ..) rfl) rfl ?_
    exact ⟨_, rfl, ⟨⟨some _, 0, rfl, Nat.le_refl _, ⟨Nat.zero_le _, Nat.zero_le _⟩, (fun h => by cases h), fun h => absurd rfl h⟩, fun b hb => (by have hb : w.heap.size + 1 + 1 = b := (by injection hb); omega)⟩, by go_grown⟩

set_option maxRecDepth 100000 in
set_option maxHeartbeats 4000000 in
theorem pE4S_litE (w : World) (eb eo n4 p4 n5 p5 n6 p6 : Nat) (l s : Int) (a5 a6 : Option Addr) (fb fo : Nat) (j : Nat) (lo : Nat) (hi : j + 1 < n4) (_hi9 : n4 ≤ 1000000000) (hn4 : n4 ≤ p4) (hp4 : p4 ≤ 9223372036854775807) (_hlo9 : lo ≤ 1000000000) (hcx : w.cell? ⟨eb, eo + (j + 1), none⟩ = some (.int .i64 ((lo : Nat) : Int))) (heb : eb < w.heap.size) (hcp : w.cell? ⟨eb, eo + j, none⟩ = some (.int .i64 ((lo : Nat) : Int))) :
    Calls Tryz.prog 51 #[.agg #[.int .i64 4, .int .i64 l, .int .i64 s, .slice (some ⟨fb, fo, none⟩) lo lo, .slice (some ⟨eb, eo, none⟩) n4 p4, .slice a5 n5 p5, .slice a6 n6 p6], .int .i64 ((j + 1 : Nat) : Int)] w fun e' w' => PEOut 1 l [] w e' w' := by
  have hj1 : ((j + 1 : Nat) : Int) - 1 = (j : Int) := by omega
  have hj2 : ((j + 1 : Nat) : Int) > 0 := by omega
  have HK : Hid (∀ W, Below (w.heap.size + 1) (w.alloc (.cells #[.int .i64 4, .int .i64 l, .int .i64 s, .slice (some ⟨fb, fo, none⟩) lo lo, .slice (some ⟨eb, eo, none⟩) n4 p4, .slice a5 n5 p5, .slice a6 n6 p6] 27)) W → W.cell? ⟨w.heap.size, 1, none⟩ = some (.int .i64 l) ∧ W.cell? ⟨w.heap.size, 3, none⟩ = some (.slice (some ⟨fb, fo, none⟩) lo lo) ∧ W.cell? ⟨w.heap.size, 4, none⟩ = some (.slice (some ⟨eb, eo, none⟩) n4 p4) ∧ W.cell? ⟨eb, eo + (j + 1), none⟩ = some (.int .i64 ((lo : Nat) : Int))) := Lib.hid (by
    intro W hb
    have hn := heap_alloc_new w (.cells #[.int .i64 4, .int .i64 l, .int .i64 s, .slice (some ⟨fb, fo, none⟩) lo lo, .slice (some ⟨eb, eo, none⟩) n4 p4, .slice a5 n5 p5, .slice a6 n6 p6] 27)
    refine ⟨?_, ?_, ?_, ?_⟩
    · rw [hb.cell (by show w.heap.size < _; omega), Lib.cell_of_heap hn]; rfl
    · rw [hb.cell (by show w.heap.size < _; omega), Lib.cell_of_heap hn]; rfl
    · rw [hb.cell (by show w.heap.size < _; omega), Lib.cell_of_heap hn]; rfl
    · rw [hb.cell (by show eb < _; omega), cell_heap (Below.heap_alloc w _ eb heb)]; exact hcx)
  go_enter Tryz.func51, Tryz.ntmps51
  go_wp2_with fail
  refine (kidOf 4 (by decide) _).mono ?_
  rintro en w' ⟨rfl, rfl⟩
  go_upto_region 27 with (fail)
  go_region_held_law (fun W => W.cell? ⟨w.heap.size, 1, none⟩ = some (.int .i64 l) ∧ W.cell? ⟨w.heap.size, 3, none⟩ = some (.slice (some ⟨fb, fo, none⟩) lo lo) ∧ W.cell? ⟨w.heap.size, 4, none⟩ = some (.slice (some ⟨eb, eo, none⟩) n4 p4) ∧ W.cell? ⟨eb, eo + (j + 1), none⟩ = some (.int .i64 ((lo : Nat) : Int))) (exact HK.out _ (by go_grown)) (fail)
  all_goals
    go_wp2_with fail
    refine bodyPost_ret (res4 _ _ (w.heap.size + 1) #[.int .i64 1, .int .i64 l, .int .i64 0, .slice (some ⟨w.heap.size + 1 + 1, 0, none⟩) 0 0, .slice none 0 0, .slice none 0 0, .slice none 0 0] rfl (heap3P ..) rfl) rfl ?_
    exact ⟨_, rfl, ⟨⟨some _, 0, rfl, Nat.le_refl _, ⟨Nat.zero_le _, Nat.zero_le _⟩, (fun h => by cases h), fun h => absurd rfl h⟩, fun b hb => (by have hb : w.heap.size + 1 + 1 = b := (by injection hb); omega)⟩, by go_grown⟩

set_option maxRecDepth 100000 in
set_option maxHeartbeats 4000000 in
theorem pE4S_nil (w : World) (eb eo n4 p4 n5 p5 n6 p6 : Nat) (l s : Int) (a5 a6 : Option Addr) (j : Nat) (hi : j + 1 < n4) (_hi9 : n4 ≤ 1000000000) (hn4 : n4 ≤ p4) (hp4 : p4 ≤ 9223372036854775807) (hcx : w.cell? ⟨eb, eo + (j + 1), none⟩ = some (.int .i64 0)) (heb : eb < w.heap.size) (hcp : w.cell? ⟨eb, eo + j, none⟩ = some (.int .i64 0)) :
    Calls Tryz.prog 51 #[.agg #[.int .i64 4, .int .i64 l, .int .i64 s, .slice none 0 0, .slice (some ⟨eb, eo, none⟩) n4 p4, .slice a5 n5 p5, .slice a6 n6 p6], .int .i64 ((j + 1 : Nat) : Int)] w fun e' w' => PEOut 1 l [] w e' w' := by
  have hj1 : ((j + 1 : Nat) : Int) - 1 = (j : Int) := by omega
  have hj2 : ((j + 1 : Nat) : Int) > 0 := by omega
  have HK : Hid (∀ W, Below (w.heap.size + 1) (w.alloc (.cells #[.int .i64 4, .int .i64 l, .int .i64 s, .slice none 0 0, .slice (some ⟨eb, eo, none⟩) n4 p4, .slice a5 n5 p5, .slice a6 n6 p6] 27)) W → W.cell? ⟨w.heap.size, 1, none⟩ = some (.int .i64 l) ∧ W.cell? ⟨w.heap.size, 3, none⟩ = some (.slice none 0 0) ∧ W.cell? ⟨w.heap.size, 4, none⟩ = some (.slice (some ⟨eb, eo, none⟩) n4 p4) ∧ W.cell? ⟨eb, eo + (j + 1), none⟩ = some (.int .i64 0)) := Lib.hid (by
    intro W hb
    have hn := heap_alloc_new w (.cells #[.int .i64 4, .int .i64 l, .int .i64 s, .slice none 0 0, .slice (some ⟨eb, eo, none⟩) n4 p4, .slice a5 n5 p5, .slice a6 n6 p6] 27)
    refine ⟨?_, ?_, ?_, ?_⟩
    · rw [hb.cell (by show w.heap.size < _; omega), Lib.cell_of_heap hn]; rfl
    · rw [hb.cell (by show w.heap.size < _; omega), Lib.cell_of_heap hn]; rfl
    · rw [hb.cell (by show w.heap.size < _; omega), Lib.cell_of_heap hn]; rfl
    · rw [hb.cell (by show eb < _; omega), cell_heap (Below.heap_alloc w _ eb heb)]; exact hcx)
  go_enter Tryz.func51, Tryz.ntmps51
  go_wp2_with fail
  refine (kidOf 4 (by decide) _).mono ?_
  rintro en w' ⟨rfl, rfl⟩
  go_upto_region 27 with (fail)
  go_region_held_law (fun W => W.cell? ⟨w.heap.size, 1, none⟩ = some (.int .i64 l) ∧ W.cell? ⟨w.heap.size, 3, none⟩ = some (.slice none 0 0) ∧ W.cell? ⟨w.heap.size, 4, none⟩ = some (.slice (some ⟨eb, eo, none⟩) n4 p4) ∧ W.cell? ⟨eb, eo + (j + 1), none⟩ = some (.int .i64 0)) (exact HK.out _ (by go_grown)) (fail)
  all_goals
    go_wp2_with fail
    refine bodyPost_ret (res4 _ _ (w.heap.size + 1) #[.int .i64 1, .int .i64 l, .int .i64 0, .slice (some ⟨w.heap.size + 1 + 1, 0, none⟩) 0 0, .slice none 0 0, .slice none 0 0, .slice none 0 0] rfl (heap3P ..) rfl) rfl ?_
    exact ⟨_, rfl, ⟨⟨some _, 0, rfl, Nat.le_refl _, ⟨Nat.zero_le _, Nat.zero_le _⟩, (fun h => by cases h), fun h => absurd rfl h⟩, fun b hb => (by have hb : w.heap.size + 1 + 1 = b := (by injection hb); omega)⟩, by go_grown⟩

set_option maxRecDepth 100000 in
set_option maxHeartbeats 4000000 in
theorem pE4S_any (w : World) (eb eo n4 p4 n5 p5 n6 p6 : Nat) (l s : Int) (a5 a6 : Option Addr) (ad : Addr) (p3 : Nat) (j : Nat) (hi : j + 1 < n4) (_hi9 : n4 ≤ 1000000000) (hn4 : n4 ≤ p4) (hp4 : p4 ≤ 9223372036854775807) (_hp3 : p3 ≤ 9223372036854775807) (hcx : w.cell? ⟨eb, eo + (j + 1), none⟩ = some (.int .i64 0)) (heb : eb < w.heap.size) (hcp : w.cell? ⟨eb, eo + j, none⟩ = some (.int .i64 0)) :
    Calls Tryz.prog 51 #[.agg #[.int .i64 4, .int .i64 l, .int .i64 s, .slice (some ad) 0 p3, .slice (some ⟨eb, eo, none⟩) n4 p4, .slice a5 n5 p5, .slice a6 n6 p6], .int .i64 ((j + 1 : Nat) : Int)] w fun e' w' => PEOut 1 l [] w e' w' := by
  have hj1 : ((j + 1 : Nat) : Int) - 1 = (j : Int) := by omega
  have hj2 : ((j + 1 : Nat) : Int) > 0 := by omega
  have HK : Hid (∀ W, Below (w.heap.size + 1) (w.alloc (.cells #[.int .i64 4, .int .i64 l, .int .i64 s, .slice (some ad) 0 p3, .slice (some ⟨eb, eo, none⟩) n4 p4, .slice a5 n5 p5, .slice a6 n6 p6] 27)) W → W.cell? ⟨w.heap.size, 1, none⟩ = some (.int .i64 l) ∧ W.cell? ⟨w.heap.size, 3, none⟩ = some (.slice (some ad) 0 p3) ∧ W.cell? ⟨w.heap.size, 4, none⟩ = some (.slice (some ⟨eb, eo, none⟩) n4 p4) ∧ W.cell? ⟨eb, eo + (j + 1), none⟩ = some (.int .i64 0)) := Lib.hid (by
    intro W hb
    have hn := heap_alloc_new w (.cells #[.int .i64 4, .int .i64 l, .int .i64 s, .slice (some ad) 0 p3, .slice (some ⟨eb, eo, none⟩) n4 p4, .slice a5 n5 p5, .slice a6 n6 p6] 27)
    refine ⟨?_, ?_, ?_, ?_⟩
    · rw [hb.cell (by show w.heap.size < _; omega), Lib.cell_of_heap hn]; rfl
    · rw [hb.cell (by show w.heap.size < _; omega), Lib.cell_of_heap hn]; rfl
    · rw [hb.cell (by show w.heap.size < _; omega), Lib.cell_of_heap hn]; rfl
    · rw [hb.cell (by show eb < _; omega), cell_heap (Below.heap_alloc w _ eb heb)]; exact hcx)
  go_enter Tryz.func51, Tryz.ntmps51
  go_wp2_with fail
  refine (kidOf 4 (by decide) _).mono ?_
  rintro en w' ⟨rfl, rfl⟩
  go_upto_region 27 with (fail)
  go_region_held_law (fun W => W.cell? ⟨w.heap.size, 1, none⟩ = some (.int .i64 l) ∧ W.cell? ⟨w.heap.size, 3, none⟩ = some (.slice (some ad) 0 p3) ∧ W.cell? ⟨w.heap.size, 4, none⟩ = some (.slice (some ⟨eb, eo, none⟩) n4 p4) ∧ W.cell? ⟨eb, eo + (j + 1), none⟩ = some (.int .i64 0)) (exact HK.out _ (by go_grown)) (fail)
  all_goals
    go_wp2_with fail
    refine bodyPost_ret (res4 _ _ (w.heap.size + 1) #[.int .i64 1, .int .i64 l, .int .i64 0, .slice (some ⟨w.heap.size + 1 + 1, 0, none⟩) 0 0, .slice none 0 0, .slice none 0 0, .slice none 0 0] rfl (heap3P ..) rfl) rfl ?_
    exact ⟨_, rfl, ⟨⟨some _, 0, rfl, Nat.le_refl _, ⟨Nat.zero_le _, Nat.zero_le _⟩, (fun h => by cases h), fun h => absurd rfl h⟩, fun b hb => (by have hb : w.heap.size + 1 + 1 = b := (by injection hb); omega)⟩, by go_grown⟩
end Go.Proofs.YtlmilelopajdiaaGreatDoor
