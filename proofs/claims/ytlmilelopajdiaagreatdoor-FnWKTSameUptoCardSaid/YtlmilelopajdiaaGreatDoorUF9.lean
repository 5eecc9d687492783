/-
  impl.geometry at the kinds that are no collections.
-/
import Derived.Test.YtlmilelopajdiaaGreatDoorUF6
namespace Go.Proofs.YtlmilelopajdiaaGreatDoor
open Go.RowKit

set_option maxRecDepth 100000 in
set_option maxHeartbeats 4000000 in
theorem mk1 (l s : Int) (f : List Nat) (e : List Int) (ee : List (List Int)) (kids : List Gm) : MAns (.mk 1 l s f e ee kids) := by
  intro w B cs h hB
  rw [arep_eq] at h
  obtain ⟨vf, ve, vee, vk, rfl, hf, he, hee, _⟩ := h
  have hf0 := hf
  obtain ⟨af, cf, hvf, _⟩ := hf0
  obtain ⟨nf, hnf⟩ : ∃ nf, nf = (f.map fv).length := ⟨_, rfl⟩
  rw [← hnf] at hvf
  obtain ⟨W1, hW1⟩ : ∃ W1, W1 = w.alloc (.cells #[.int .i64 1, .int .i64 l, .int .i64 s, vf, ve, vee, vk] 27) := ⟨_, rfl⟩
  obtain ⟨b1, hb1⟩ : ∃ b1, b1 = w.heap.size := ⟨_, rfl⟩
  have hbox : Box W1 b1 1 l s vf ve vee vk := by unfold Box; rw [hW1, hb1]; exact heap_alloc_new w _
  have hwW : Below w.heap.size w W1 := by rw [hW1]; exact (Below.refl w.heap.size w).alloc (Nat.le_refl _) _
  have hsz : W1.heap.size = w.heap.size + 1 := by rw [hW1]; simp
  have hb1s : b1 < W1.heap.size := by omega
  have HF : Hid (∀ w', Below W1.heap.size W1 w' → Calls Tryz.prog 27 #[vf] w' fun e w2 => ∃ a c, e = .returned (.slice a nf c) ∧ w2.cell? ⟨b1, 1, none⟩ = some (.int .i64 l) ∧ w2.cell? ⟨b1, 3, none⟩ = some vf ∧ Hid (OwnS w2 (Betw W1 w2) (.slice a nf c) (f.map fv) ∧ Below W1.heap.size W1 w2)) := Lib.hid (by
    intro w' hb
    refine (floatsCopy w' B vf (f.map fv) (hf.below ((hwW.trans (hb.mono (by omega))).mono hB)) (oneF f)).mono ?_
    rintro en w2 ⟨v', rfl, ho, hbl⟩
    obtain ⟨a, c, hv⟩ := ho.lit
    rw [← hnf] at hv
    subst hv
    have hb2 : Below W1.heap.size W1 w2 := hb.trans (hbl.mono hb.size)
    have hbx := hbox.below hb2 hb1s
    exact ⟨a, c, rfl, hbx.c1, hbx.c3, Lib.hid ⟨ho.frame (fun b hb' => ⟨by have := hb.size; have := hb'.1; omega, hb'.2⟩) (fun _ _ => rfl), hb2⟩⟩)
  have q0 := hbox.c0
  have q1 := hbox.c1
  have q3 := hbox.c3
  have HBX := Lib.hid hbox
  have HW := Lib.hid hwW
  have HS := Lib.hid hsz
  have HNF := Lib.hid hnf
  clear hf he hee hnf hbox hwW hsz
  subst hvf
  go_enter Tryz.func17, Tryz.ntmps17
  go_upto_region 1 with (fail)
  rw [← hW1, ← hb1]
  have HB1 := Lib.hid hb1
  clear hW1 hb1
  go_cut [3, 4] (fun v3 v4 wx => ∃ a c, v3 = .int .i64 l ∧ v4 = .slice a nf c ∧ Hid (OwnS wx (Betw W1 wx) (.slice a nf c) (f.map fv) ∧ Below W1.heap.size W1 wx))
  case first =>
    go_region_with (go_at_call 27; refine (HF.out _ ?_).mono ?_; exact ⟨rfl, rfl, rfl, Nat.le_refl _, fun _ _ => rfl⟩; rintro en w2 ⟨a, c, rfl, d1, d3, HO⟩)
    all_goals
      go_wp2_with fail
      go_meet
      exact ⟨a, c, rfl, rfl, HO⟩
  case rest =>
    obtain ⟨a, c, rfl, rfl, HO⟩ := hcut
    generalize wc = w2 at *
    have hbox2 := HBX.out.below HO.out.2 hb1s
    have r0 := hbox2.c0
    have r2 := hbox2.c2
    have hb12 : b1 < w2.heap.size := by have := HO.out.2.size; omega
    have HBX2 := Lib.hid hbox2
    clear q0 q1 q3 HF hbox2
    have HN : Hid (∀ w', Below w2.heap.size w2 w' → Calls Tryz.prog 28 #[.int .i64 l, .slice a nf c] w' fun e w3 => ∃ ob, e = .returned (.pointer (some ⟨ob, 0, none⟩)) ∧ w3.cell? ⟨b1, 2, none⟩ = some (.int .i64 s) ∧ Hid (w2.heap.size ≤ ob ∧ w3.heap[ob]? = some (.cells #[.int .i64 l, .int .i64 (stride l), .slice a nf c, .int .i64 0] 106 (0, 0)) ∧ Below w2.heap.size w2 w3)) := Lib.hid (by
      intro w' hb
      refine (newPoint w' l a nf c).mono ?_
      rintro en w3 ⟨rfl, rfl⟩
      have hbb : Below w2.heap.size w2 (w'.alloc (.cells #[.int .i64 l, .int .i64 (stride l), .slice a nf c, .int .i64 0] 106)) := hb.alloc hb.size _
      exact ⟨_, rfl, (HBX2.out.below hbb hb12).c2, Lib.hid ⟨hb.size, heap_alloc_new w' _, hbb⟩⟩)
    have HSR : Hid (∀ w3 ob, w3.heap[ob]? = some (.cells #[.int .i64 l, .int .i64 (stride l), .slice a nf c, .int .i64 0] 106 (0, 0)) → Calls Tryz.prog 29 #[.pointer (some ⟨ob, 0, none⟩), .int .i64 s] w3 fun e w4 => e = .returned (.pointer (some ⟨ob, 0, none⟩)) ∧ w4 = w3.setCell ⟨ob, 3, none⟩ (.int .i64 s)) := Lib.hid (by
      intro w3 ob hh
      exact sridPoint w3 ob s (.int .i64 0) (by rw [Lib.cell_of_heap hh]; rfl) (Lib.frozen_of_heap hh 3))
    go_wp2_with fail
    go_region_with (first
      | (go_at_call 28; refine (HN.out _ ?_).mono ?_; exact ⟨rfl, rfl, rfl, Nat.le_refl _, fun _ _ => rfl⟩; rintro en w3 ⟨ob, rfl, d2, HR⟩)
      | (go_at_call 29; refine (HSR.out _ _ ?_).mono ?_; exact HR.out.2.1; rintro en w4 ⟨rfl, rfl⟩))
    all_goals
      go_wp2_with fail
      go_ret
      obtain ⟨o1, o2, o3⟩ := HR.out
      obtain ⟨s1, s2, s3⟩ := setc_block o2 3 (.int .i64 s) (by show 3 < 4; decide)
      generalize w3.setCell ⟨ob, 3, none⟩ (.int .i64 s) = w4 at *
      have t1 := HO.out.2.size
      have t2 := o3.size
      have t3 := s2.size
      have t4 := HS.out
      have t5 := HB1.out
      have hbW : Below w.heap.size w w4 := HW.out.trans ((HO.out.2.trans (o3.mono t1)).mono (by omega) |>.trans (s2.mono (by omega)))
      refine ⟨_, rfl, ?_, hbW⟩
      unfold RepS
      refine ⟨ob, rfl, ⟨by omega, lt_of_block s1⟩, by rw [Lib.cell_of_heap s1]; rfl, fun _ => ⟨_, by rw [Lib.cell_of_heap s1]; rfl, HO.out.1.frame (fun b hb => ⟨by have := hb.1; omega, by have := hb.2; omega⟩) (fun b hb => ?_)⟩, fun h => absurd h (by decide), fun h => absurd h (by decide), fun h => absurd h (by decide)⟩
      rw [s3 b (by have := hb.2; omega)]
      exact o3.block b hb.2
set_option maxRecDepth 100000 in
set_option maxHeartbeats 4000000 in
theorem mk2 (l s : Int) (f : List Nat) (e : List Int) (ee : List (List Int)) (kids : List Gm) : MAns (.mk 2 l s f e ee kids) := by
  intro w B cs h hB
  rw [arep_eq] at h
  obtain ⟨vf, ve, vee, vk, rfl, hf, he, hee, _⟩ := h
  have hf0 := hf
  obtain ⟨af, cf, hvf, _⟩ := hf0
  obtain ⟨nf, hnf⟩ : ∃ nf, nf = (f.map fv).length := ⟨_, rfl⟩
  rw [← hnf] at hvf
  obtain ⟨W1, hW1⟩ : ∃ W1, W1 = w.alloc (.cells #[.int .i64 2, .int .i64 l, .int .i64 s, vf, ve, vee, vk] 27) := ⟨_, rfl⟩
  obtain ⟨b1, hb1⟩ : ∃ b1, b1 = w.heap.size := ⟨_, rfl⟩
  have hbox : Box W1 b1 2 l s vf ve vee vk := by unfold Box; rw [hW1, hb1]; exact heap_alloc_new w _
  have hwW : Below w.heap.size w W1 := by rw [hW1]; exact (Below.refl w.heap.size w).alloc (Nat.le_refl _) _
  have hsz : W1.heap.size = w.heap.size + 1 := by rw [hW1]; simp
  have hb1s : b1 < W1.heap.size := by omega
  have HF : Hid (∀ w', Below W1.heap.size W1 w' → Calls Tryz.prog 27 #[vf] w' fun e w2 => ∃ a c, e = .returned (.slice a nf c) ∧ w2.cell? ⟨b1, 1, none⟩ = some (.int .i64 l) ∧ w2.cell? ⟨b1, 3, none⟩ = some vf ∧ Hid (OwnS w2 (Betw W1 w2) (.slice a nf c) (f.map fv) ∧ Below W1.heap.size W1 w2)) := Lib.hid (by
    intro w' hb
    refine (floatsCopy w' B vf (f.map fv) (hf.below ((hwW.trans (hb.mono (by omega))).mono hB)) (oneF f)).mono ?_
    rintro en w2 ⟨v', rfl, ho, hbl⟩
    obtain ⟨a, c, hv⟩ := ho.lit
    rw [← hnf] at hv
    subst hv
    have hb2 : Below W1.heap.size W1 w2 := hb.trans (hbl.mono hb.size)
    have hbx := hbox.below hb2 hb1s
    exact ⟨a, c, rfl, hbx.c1, hbx.c3, Lib.hid ⟨ho.frame (fun b hb' => ⟨by have := hb.size; have := hb'.1; omega, hb'.2⟩) (fun _ _ => rfl), hb2⟩⟩)
  have q0 := hbox.c0
  have q1 := hbox.c1
  have q3 := hbox.c3
  have HBX := Lib.hid hbox
  have HW := Lib.hid hwW
  have HS := Lib.hid hsz
  have HNF := Lib.hid hnf
  clear hf he hee hnf hbox hwW hsz
  subst hvf
  go_enter Tryz.func17, Tryz.ntmps17
  go_upto_region 1 with (fail)
  rw [← hW1, ← hb1]
  have HB1 := Lib.hid hb1
  clear hW1 hb1
  go_cut [3, 4] (fun v3 v4 wx => ∃ a c, v3 = .int .i64 l ∧ v4 = .slice a nf c ∧ Hid (OwnS wx (Betw W1 wx) (.slice a nf c) (f.map fv) ∧ Below W1.heap.size W1 wx))
  case first =>
    go_region_with (go_at_call 27; refine (HF.out _ ?_).mono ?_; exact ⟨rfl, rfl, rfl, Nat.le_refl _, fun _ _ => rfl⟩; rintro en w2 ⟨a, c, rfl, d1, d3, HO⟩)
    all_goals
      go_wp2_with fail
      go_meet
      exact ⟨a, c, rfl, rfl, HO⟩
  case rest =>
    obtain ⟨a, c, rfl, rfl, HO⟩ := hcut
    generalize wc = w2 at *
    have hbox2 := HBX.out.below HO.out.2 hb1s
    have r0 := hbox2.c0
    have r2 := hbox2.c2
    have hb12 : b1 < w2.heap.size := by have := HO.out.2.size; omega
    have HBX2 := Lib.hid hbox2
    clear q0 q1 q3 HF hbox2
    have HN : Hid (∀ w', Below w2.heap.size w2 w' → Calls Tryz.prog 30 #[.int .i64 l, .slice a nf c] w' fun e w3 => ∃ ob, e = .returned (.pointer (some ⟨ob, 0, none⟩)) ∧ w3.cell? ⟨b1, 2, none⟩ = some (.int .i64 s) ∧ Hid (w2.heap.size ≤ ob ∧ w3.heap[ob]? = some (.cells #[.int .i64 l, .int .i64 (stride l), .slice a nf c, .int .i64 0] 110 (0, 0)) ∧ Below w2.heap.size w2 w3)) := Lib.hid (by
      intro w' hb
      refine (newLine w' l a nf c).mono ?_
      rintro en w3 ⟨rfl, rfl⟩
      have hbb : Below w2.heap.size w2 (w'.alloc (.cells #[.int .i64 l, .int .i64 (stride l), .slice a nf c, .int .i64 0] 110)) := hb.alloc hb.size _
      exact ⟨_, rfl, (HBX2.out.below hbb hb12).c2, Lib.hid ⟨hb.size, heap_alloc_new w' _, hbb⟩⟩)
    have HSR : Hid (∀ w3 ob, w3.heap[ob]? = some (.cells #[.int .i64 l, .int .i64 (stride l), .slice a nf c, .int .i64 0] 110 (0, 0)) → Calls Tryz.prog 31 #[.pointer (some ⟨ob, 0, none⟩), .int .i64 s] w3 fun e w4 => e = .returned (.pointer (some ⟨ob, 0, none⟩)) ∧ w4 = w3.setCell ⟨ob, 3, none⟩ (.int .i64 s)) := Lib.hid (by
      intro w3 ob hh
      exact sridLine w3 ob s (.int .i64 0) (by rw [Lib.cell_of_heap hh]; rfl) (Lib.frozen_of_heap hh 3))
    go_wp2_with fail
    go_region_with (first
      | (go_at_call 30; refine (HN.out _ ?_).mono ?_; exact ⟨rfl, rfl, rfl, Nat.le_refl _, fun _ _ => rfl⟩; rintro en w3 ⟨ob, rfl, d2, HR⟩)
      | (go_at_call 31; refine (HSR.out _ _ ?_).mono ?_; exact HR.out.2.1; rintro en w4 ⟨rfl, rfl⟩))
    all_goals
      go_wp2_with fail
      go_ret
      obtain ⟨o1, o2, o3⟩ := HR.out
      obtain ⟨s1, s2, s3⟩ := setc_block o2 3 (.int .i64 s) (by show 3 < 4; decide)
      generalize w3.setCell ⟨ob, 3, none⟩ (.int .i64 s) = w4 at *
      have t1 := HO.out.2.size
      have t2 := o3.size
      have t3 := s2.size
      have t4 := HS.out
      have t5 := HB1.out
      have hbW : Below w.heap.size w w4 := HW.out.trans ((HO.out.2.trans (o3.mono t1)).mono (by omega) |>.trans (s2.mono (by omega)))
      refine ⟨_, rfl, ?_, hbW⟩
      unfold RepS
      refine ⟨ob, rfl, ⟨by omega, lt_of_block s1⟩, by rw [Lib.cell_of_heap s1]; rfl, fun _ => ⟨_, by rw [Lib.cell_of_heap s1]; rfl, HO.out.1.frame (fun b hb => ⟨by have := hb.1; omega, by have := hb.2; omega⟩) (fun b hb => ?_)⟩, fun h => absurd h (by decide), fun h => absurd h (by decide), fun h => absurd h (by decide)⟩
      rw [s3 b (by have := hb.2; omega)]
      exact o3.block b hb.2
set_option maxRecDepth 100000 in
set_option maxHeartbeats 4000000 in
theorem mk8 (l s : Int) (f : List Nat) (e : List Int) (ee : List (List Int)) (kids : List Gm) : MAns (.mk 8 l s f e ee kids) := by
  intro w B cs h hB
  rw [arep_eq] at h
  obtain ⟨vf, ve, vee, vk, rfl, hf, he, hee, _⟩ := h
  have hf0 := hf
  obtain ⟨af, cf, hvf, _⟩ := hf0
  obtain ⟨nf, hnf⟩ : ∃ nf, nf = (f.map fv).length := ⟨_, rfl⟩
  rw [← hnf] at hvf
  obtain ⟨W1, hW1⟩ : ∃ W1, W1 = w.alloc (.cells #[.int .i64 8, .int .i64 l, .int .i64 s, vf, ve, vee, vk] 27) := ⟨_, rfl⟩
  obtain ⟨b1, hb1⟩ : ∃ b1, b1 = w.heap.size := ⟨_, rfl⟩
  have hbox : Box W1 b1 8 l s vf ve vee vk := by unfold Box; rw [hW1, hb1]; exact heap_alloc_new w _
  have hwW : Below w.heap.size w W1 := by rw [hW1]; exact (Below.refl w.heap.size w).alloc (Nat.le_refl _) _
  have hsz : W1.heap.size = w.heap.size + 1 := by rw [hW1]; simp
  have hb1s : b1 < W1.heap.size := by omega
  have HF : Hid (∀ w', Below W1.heap.size W1 w' → Calls Tryz.prog 27 #[vf] w' fun e w2 => ∃ a c, e = .returned (.slice a nf c) ∧ w2.cell? ⟨b1, 1, none⟩ = some (.int .i64 l) ∧ w2.cell? ⟨b1, 3, none⟩ = some vf ∧ Hid (OwnS w2 (Betw W1 w2) (.slice a nf c) (f.map fv) ∧ Below W1.heap.size W1 w2)) := Lib.hid (by
    intro w' hb
    refine (floatsCopy w' B vf (f.map fv) (hf.below ((hwW.trans (hb.mono (by omega))).mono hB)) (oneF f)).mono ?_
    rintro en w2 ⟨v', rfl, ho, hbl⟩
    obtain ⟨a, c, hv⟩ := ho.lit
    rw [← hnf] at hv
    subst hv
    have hb2 : Below W1.heap.size W1 w2 := hb.trans (hbl.mono hb.size)
    have hbx := hbox.below hb2 hb1s
    exact ⟨a, c, rfl, hbx.c1, hbx.c3, Lib.hid ⟨ho.frame (fun b hb' => ⟨by have := hb.size; have := hb'.1; omega, hb'.2⟩) (fun _ _ => rfl), hb2⟩⟩)
  have q0 := hbox.c0
  have q1 := hbox.c1
  have q3 := hbox.c3
  have HBX := Lib.hid hbox
  have HW := Lib.hid hwW
  have HS := Lib.hid hsz
  have HNF := Lib.hid hnf
  clear hf he hee hnf hbox hwW hsz
  subst hvf
  go_enter Tryz.func17, Tryz.ntmps17
  go_upto_region 1 with (fail)
  rw [← hW1, ← hb1]
  have HB1 := Lib.hid hb1
  clear hW1 hb1
  go_cut [3, 4] (fun v3 v4 wx => ∃ a c, v3 = .int .i64 l ∧ v4 = .slice a nf c ∧ Hid (OwnS wx (Betw W1 wx) (.slice a nf c) (f.map fv) ∧ Below W1.heap.size W1 wx))
  case first =>
    go_region_with (go_at_call 27; refine (HF.out _ ?_).mono ?_; exact ⟨rfl, rfl, rfl, Nat.le_refl _, fun _ _ => rfl⟩; rintro en w2 ⟨a, c, rfl, d1, d3, HO⟩)
    all_goals
      go_wp2_with fail
      go_meet
      exact ⟨a, c, rfl, rfl, HO⟩
  case rest =>
    obtain ⟨a, c, rfl, rfl, HO⟩ := hcut
    generalize wc = w2 at *
    have hbox2 := HBX.out.below HO.out.2 hb1s
    have r0 := hbox2.c0
    have r2 := hbox2.c2
    have hb12 : b1 < w2.heap.size := by have := HO.out.2.size; omega
    have HBX2 := Lib.hid hbox2
    clear q0 q1 q3 HF hbox2
    have HN : Hid (∀ w', Below w2.heap.size w2 w' → Calls Tryz.prog 32 #[.int .i64 l, .slice a nf c] w' fun e w3 => ∃ ob, e = .returned (.pointer (some ⟨ob, 0, none⟩)) ∧ w3.cell? ⟨b1, 2, none⟩ = some (.int .i64 s) ∧ Hid (w2.heap.size ≤ ob ∧ w3.heap[ob]? = some (.cells #[.int .i64 l, .int .i64 (stride l), .slice a nf c, .int .i64 0] 111 (0, 0)) ∧ Below w2.heap.size w2 w3)) := Lib.hid (by
      intro w' hb
      refine (newRing w' l a nf c).mono ?_
      rintro en w3 ⟨rfl, rfl⟩
      have hbb : Below w2.heap.size w2 (w'.alloc (.cells #[.int .i64 l, .int .i64 (stride l), .slice a nf c, .int .i64 0] 111)) := hb.alloc hb.size _
      exact ⟨_, rfl, (HBX2.out.below hbb hb12).c2, Lib.hid ⟨hb.size, heap_alloc_new w' _, hbb⟩⟩)
    have HSR : Hid (∀ w3 ob, w3.heap[ob]? = some (.cells #[.int .i64 l, .int .i64 (stride l), .slice a nf c, .int .i64 0] 111 (0, 0)) → Calls Tryz.prog 33 #[.pointer (some ⟨ob, 0, none⟩), .int .i64 s] w3 fun e w4 => e = .returned (.pointer (some ⟨ob, 0, none⟩)) ∧ w4 = w3.setCell ⟨ob, 3, none⟩ (.int .i64 s)) := Lib.hid (by
      intro w3 ob hh
      exact sridRing w3 ob s (.int .i64 0) (by rw [Lib.cell_of_heap hh]; rfl) (Lib.frozen_of_heap hh 3))
    go_wp2_with fail
    go_region_with (first
      | (go_at_call 32; refine (HN.out _ ?_).mono ?_; exact ⟨rfl, rfl, rfl, Nat.le_refl _, fun _ _ => rfl⟩; rintro en w3 ⟨ob, rfl, d2, HR⟩)
      | (go_at_call 33; refine (HSR.out _ _ ?_).mono ?_; exact HR.out.2.1; rintro en w4 ⟨rfl, rfl⟩))
    all_goals
      go_wp2_with fail
      go_ret
      obtain ⟨o1, o2, o3⟩ := HR.out
      obtain ⟨s1, s2, s3⟩ := setc_block o2 3 (.int .i64 s) (by show 3 < 4; decide)
      generalize w3.setCell ⟨ob, 3, none⟩ (.int .i64 s) = w4 at *
      have t1 := HO.out.2.size
      have t2 := o3.size
      have t3 := s2.size
      have t4 := HS.out
      have t5 := HB1.out
      have hbW : Below w.heap.size w w4 := HW.out.trans ((HO.out.2.trans (o3.mono t1)).mono (by omega) |>.trans (s2.mono (by omega)))
      refine ⟨_, rfl, ?_, hbW⟩
      unfold RepS
      refine ⟨ob, rfl, ⟨by omega, lt_of_block s1⟩, by rw [Lib.cell_of_heap s1]; rfl, fun _ => ⟨_, by rw [Lib.cell_of_heap s1]; rfl, HO.out.1.frame (fun b hb => ⟨by have := hb.1; omega, by have := hb.2; omega⟩) (fun b hb => ?_)⟩, fun h => absurd h (by decide), fun h => absurd h (by decide), fun h => absurd h (by decide)⟩
      rw [s3 b (by have := hb.2; omega)]
      exact o3.block b hb.2
end Go.Proofs.YtlmilelopajdiaaGreatDoor
