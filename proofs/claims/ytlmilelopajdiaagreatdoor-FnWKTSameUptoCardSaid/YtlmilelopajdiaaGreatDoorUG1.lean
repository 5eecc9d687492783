/-
  impl.geometry at the kinds that are no collections.
-/
import Derived.Test.YtlmilelopajdiaaGreatDoorUF6
namespace Go.Proofs.YtlmilelopajdiaaGreatDoor
open Go.RowKit

set_option maxRecDepth 100000 in
set_option maxHeartbeats 4000000 in
theorem mk4 (l s : Int) (f : List Nat) (e : List Int) (ee : List (List Int)) (kids : List Gm) (h4 : e = [] → f = []) : MAns (.mk 4 l s f e ee kids) := by
  intro w B cs h hB
  rw [arep_eq] at h
  obtain ⟨vf, ve, vee, vk, rfl, hf, he, hee, _⟩ := h
  have hf0 := hf
  obtain ⟨af, cf, hvf, _⟩ := hf0
  obtain ⟨nf, hnf⟩ : ∃ nf, nf = (f.map fv).length := ⟨_, rfl⟩
  have he0 := he
  obtain ⟨ae, ce, hve, _⟩ := he0
  obtain ⟨ne, hne⟩ : ∃ ne, ne = (e.map iv).length := ⟨_, rfl⟩
  rw [← hne] at hve
  rw [← hnf] at hvf
  obtain ⟨W1, hW1⟩ : ∃ W1, W1 = w.alloc (.cells #[.int .i64 4, .int .i64 l, .int .i64 s, vf, ve, vee, vk] 27) := ⟨_, rfl⟩
  obtain ⟨b1, hb1⟩ : ∃ b1, b1 = w.heap.size := ⟨_, rfl⟩
  have hbox : Box W1 b1 4 l s vf ve vee vk := by unfold Box; rw [hW1, hb1]; exact heap_alloc_new w _
  have hwW : Below w.heap.size w W1 := by rw [hW1]; exact (Below.refl w.heap.size w).alloc (Nat.le_refl _) _
  have hsz : W1.heap.size = w.heap.size + 1 := by rw [hW1]; simp
  have hb1s : b1 < W1.heap.size := by omega
  have HF : Hid (∀ w', Below W1.heap.size W1 w' → Calls Tryz.prog 27 #[vf] w' fun e w2 => ∃ a c, e = .returned (.slice a nf c) ∧ w2.cell? ⟨b1, 1, none⟩ = some (.int .i64 l) ∧ w2.cell? ⟨b1, 3, none⟩ = some vf ∧ Hid (OwnS w2 (Betw W1 w2) (.slice a nf c) (f.map fv) ∧ Below W1.heap.size W1 w2)) := Lib.hid (by
    intro w' hb
    refine (floatsCopy w' B vf (f.map fv) (hf.below ((hwW.trans (hb.mono (by omega))).mono hB)) (oneF f)).mono ?_
    rintro en w2 ⟨v', rfl, ho, hbl⟩
    obtain ⟨a, c, hv⟩ := ho.lit
    rw [← hnf] at hv
    subst hv
    have hb2 : Below W1.heap.size W1 w2 := hb.trans (hbl.mono hb.size)
    have hbx := hbox.below hb2 hb1s
    exact ⟨a, c, rfl, hbx.c1, hbx.c3, Lib.hid ⟨ho.frame (fun b hb' => ⟨by have := hb.size; have := hb'.1; omega, hb'.2⟩) (fun _ _ => rfl), hb2⟩⟩)
  have q0 := hbox.c0
  have q1 := hbox.c1
  have q3 := hbox.c3
  have HBX := Lib.hid hbox
  have HW := Lib.hid hwW
  have HS := Lib.hid hsz
  have H44 := Lib.hid h4
  have HE := Lib.hid he
  have HNE := Lib.hid hne
  have HNF := Lib.hid hnf
  clear hf he hee hnf hbox hwW hsz h4 hne
  subst hvf
  subst hve
  go_enter Tryz.func17, Tryz.ntmps17
  go_upto_region 1 with (fail)
  rw [← hW1, ← hb1]
  have HB1 := Lib.hid hb1
  clear hW1 hb1
  go_cut [3, 4] (fun v3 v4 wx => ∃ a c, v3 = .int .i64 l ∧ v4 = .slice a nf c ∧ Hid (OwnS wx (Betw W1 wx) (.slice a nf c) (f.map fv) ∧ Below W1.heap.size W1 wx))
  case first =>
    go_region_with (go_at_call 27; refine (HF.out _ ?_).mono ?_; exact ⟨rfl, rfl, rfl, Nat.le_refl _, fun _ _ => rfl⟩; rintro en w2 ⟨a, c, rfl, d1, d3, HO⟩)
    all_goals
      go_wp2_with fail
      go_meet
      exact ⟨a, c, rfl, rfl, HO⟩
  case rest =>
    obtain ⟨a, c, rfl, rfl, HO⟩ := hcut
    generalize wc = w2 at *
    have hbox2 := HBX.out.below HO.out.2 hb1s
    have r0 := hbox2.c0
    have r2 := hbox2.c2
    have r4 := hbox2.c4
    have hb12 : b1 < w2.heap.size := by have := HO.out.2.size; omega
    have HBX2 := Lib.hid hbox2
    clear q0 q1 q3 HF hbox2
    have HI : Hid (∀ w', Below w2.heap.size w2 w' → Calls Tryz.prog 35 #[.slice ae ne ce] w' fun e' w3 => ∃ a4 c4, e' = .returned (.slice a4 ne c4) ∧ w3.cell? ⟨b1, 2, none⟩ = some (.int .i64 s) ∧ Hid ((OwnS w3 (Betw w2 w3) (.slice a4 ne c4) (e.map iv)) ∧ Below w2.heap.size w2 w3)) := Lib.hid (by
      intro w' hb
      refine (intsCopy w' B (.slice ae ne ce) (e.map iv) (HE.out.below ((HW.out.trans ((HO.out.2.trans (hb.mono HO.out.2.size)).mono (by have := HS.out; omega))).mono hB)) (oneI e)).mono ?_
      rintro en w3 ⟨v', rfl, ho, hbl⟩
      obtain ⟨a4, c4, hv⟩ := ho.lit
      rw [← HNE.out] at hv
      subst hv
      have hb2 : Below w2.heap.size w2 w3 := hb.trans (hbl.mono hb.size)
      have hbx := HBX2.out.below hb2 hb12
      exact ⟨a4, c4, rfl, hbx.c2, Lib.hid ⟨ho.frame (fun b hb' => ⟨by have := hb.size; have := hb'.1; omega, hb'.2⟩) (fun _ _ => rfl), hb2⟩⟩)
    have HOP : Hid (∀ w' a4 c4, Below w2.heap.size w2 w' → Calls Tryz.prog 38 #[.slice a4 ne c4] w' fun e' w3 => ∃ eb, e' = .returned (.func (.func 56) #[] #[.pointer (some ⟨eb, 0, none⟩)]) ∧ w3.cell? ⟨b1, 2, none⟩ = some (.int .i64 s) ∧ b1 < w3.heap.size ∧ Hid (w3.cell? ⟨eb, 0, none⟩ = some (.slice a4 ne c4) ∧ eb < w3.heap.size ∧ Below w'.heap.size w' w3)) := Lib.hid (by
      intro w' a4 c4 hb
      refine (optEnds w' a4 ne c4).mono ?_
      rintro en w3 ⟨rfl, rfl⟩
      have hbb : Below w'.heap.size w' (w'.alloc (.cells #[.slice a4 ne c4] 23)) := (Below.refl _ _).alloc (Nat.le_refl _) _
      have hsz := hb.size
      exact ⟨_, rfl, (HBX2.out.below (hb.trans (hbb.mono hb.size)) hb12).c2, by simp; omega, Lib.hid ⟨by rw [Lib.cell_of_heap (heap_alloc_new w' _)]; rfl, by simp, hbb⟩⟩)
    have HA4 : Hid (∀ w3 a4 c4, OwnS w3 (Betw w2 w3) (.slice a4 ne c4) (e.map iv) → (a4 = none ∧ ne = 0 ∧ c4 = 0 ∧ nf = 0) ∨ ∃ b, a4 = some ⟨b, 0, none⟩) := Lib.hid (by
      intro w3 a4 c4 ho
      rcases ho with ⟨h1, h2⟩ | ⟨b, cap, h1, _⟩
      · injection h2 with e1 e2 e3
        exact Or.inl ⟨e1, e2, e3, by rw [HNF.out, H44.out (List.map_eq_nil_iff.1 h1)]; rfl⟩
      · injection h1 with e1
        exact Or.inr ⟨b, e1⟩)
    have HN : Hid (∀ w4 eb a4 c4, w4.cell? ⟨eb, 0, none⟩ = some (.slice a4 ne c4) → eb < w4.heap.size → Below w2.heap.size w2 w4 → ((a4 = none ∧ ne = 0 ∧ c4 = 0 ∧ nf = 0) ∨ ∃ b, a4 = some ⟨b, 0, none⟩) → Calls Tryz.prog 37 #[.int .i64 l, .slice a nf c, .slice (some ⟨w4.heap.size, 0, none⟩) 1 1] (w4.alloc (.cells #[.func (.func 56) #[] #[.pointer (some ⟨eb, 0, none⟩)]] 78)) fun e' w5 => ∃ ob, e' = .returned (.pointer (some ⟨ob, 0, none⟩)) ∧ w5.cell? ⟨b1, 2, none⟩ = some (.int .i64 s) ∧ Hid (w4.heap.size ≤ ob ∧ w5.heap[ob]? = some (.cells #[.int .i64 l, .int .i64 (stride l), .slice a nf c, .int .i64 0, .slice a4 ne c4] 117 (0, 0)) ∧ Below w4.heap.size w4 w5)) := Lib.hid (by
      intro w4 eb a4 c4 hce heb hb h4
      have hbA : Below w4.heap.size w4 (w4.alloc (.cells #[.func (.func 56) #[] #[.pointer (some ⟨eb, 0, none⟩)]] 78)) := (Below.refl _ _).alloc (Nat.le_refl _) _
      refine (newPoints _ l a a4 nf c ne c4 w4.heap.size eb (by rw [Lib.cell_of_heap (heap_alloc_new w4 _)]; rfl) (by rw [hbA.cell heb]; exact hce) (by simp) (by simp; omega) h4).mono ?_
      rintro en w5 ⟨rfl, rfl⟩
      have hbb := hbA.alloc (B := w4.heap.size) (by simp) (.cells #[.int .i64 l, .int .i64 (stride l), .slice a nf c, .int .i64 0, .slice a4 ne c4] 117)
      exact ⟨_, rfl, (HBX2.out.below (hb.trans (hbb.mono hb.size)) hb12).c2, Lib.hid ⟨by simp, heap_alloc_new _ _, hbb⟩⟩)
    have HSR : Hid (∀ w3 ob a4 c4, w3.heap[ob]? = some (.cells #[.int .i64 l, .int .i64 (stride l), .slice a nf c, .int .i64 0, .slice a4 ne c4] 117 (0, 0)) → Calls Tryz.prog 39 #[.pointer (some ⟨ob, 0, none⟩), .int .i64 s] w3 fun e' w4 => e' = .returned (.pointer (some ⟨ob, 0, none⟩)) ∧ w4 = w3.setCell ⟨ob, 3, none⟩ (.int .i64 s)) := Lib.hid (by
      intro w3 ob a4 c4 hh
      exact sridPoints w3 ob s (.int .i64 0) (by rw [Lib.cell_of_heap hh]; rfl) (Lib.frozen_of_heap hh 3))
    clear HE
    go_wp2_with fail
    go_region_with (first
      | (go_at_call 35; refine (HI.out _ ?_).mono ?_; exact ⟨rfl, rfl, rfl, Nat.le_refl _, fun _ _ => rfl⟩; rintro en w3 ⟨a4, c4, rfl, d2, HQ⟩)
      | (go_at_call 38; refine (HOP.out _ _ _ ?_).mono ?_; exact HQ.out.2; rintro en w4 ⟨eb, rfl, d3, d4, HT⟩)
      | (go_at_call 37; refine (HN.out _ eb a4 c4 ?_ ?_ ?_ ?_).mono ?_; exact HT.out.1; exact HT.out.2.1; exact HQ.out.2.trans (HT.out.2.2.mono HQ.out.2.size); exact HA4.out _ _ _ HQ.out.1; rintro en w5 ⟨ob, rfl, d5, HR⟩)
      | (go_at_call 39; refine (HSR.out _ _ a4 c4 ?_).mono ?_; exact HR.out.2.1; rintro en w6 ⟨rfl, rfl⟩))
    all_goals
      go_wp2_with fail
      go_ret
      obtain ⟨u1, u2⟩ := HQ.out
      obtain ⟨_, _, u5⟩ := HT.out
      obtain ⟨o1, o2, o3⟩ := HR.out
      obtain ⟨s1, s2, s3⟩ := setc_block o2 3 (.int .i64 s) (by show 3 < 5; decide)
      generalize w5.setCell ⟨ob, 3, none⟩ (.int .i64 s) = w6 at *
      have t0 := u2.size
      have t1 := HO.out.2.size
      have t2 := o3.size
      have t6 := u5.size
      have t3 := s2.size
      have t4 := HS.out
      have t5 := HB1.out
      have hbW : Below w.heap.size w w6 := HW.out.trans ((HO.out.2.trans (u2.mono t1)).mono (by omega) |>.trans ((u5.mono (by omega)).trans ((o3.mono (by omega)).trans (s2.mono (by omega)))))
      refine ⟨_, rfl, ?_, hbW⟩
      unfold RepS
      refine ⟨ob, rfl, ⟨by omega, lt_of_block s1⟩, by rw [Lib.cell_of_heap s1]; rfl, fun _ => ⟨_, by rw [Lib.cell_of_heap s1]; rfl, HO.out.1.frame (fun b hb => ⟨by have := hb.1; omega, by have := hb.2; omega⟩) (fun b hb => by rw [s3 b (by have := hb.2; omega), o3.block b (by have := hb.2; omega), u5.block b (by have := hb.2; omega)]; exact u2.block b hb.2)⟩, fun _ => ⟨_, by rw [Lib.cell_of_heap s1]; rfl, u1.frame (fun b hb => ⟨by have := hb.1; omega, by have := hb.2; omega⟩) (fun b hb => by rw [s3 b (by have := hb.2; omega), o3.block b (by have := hb.2; omega)]; exact u5.block b hb.2)⟩, fun h => absurd h (by decide), fun h => absurd h (by decide)⟩
set_option maxRecDepth 100000 in
set_option maxHeartbeats 4000000 in
theorem mk6 (l s : Int) (f : List Nat) (e : List Int) (ee : List (List Int)) (kids : List Gm) : MAns (.mk 6 l s f e ee kids) := by
  intro w B cs h hB
  rw [arep_eq] at h
  obtain ⟨vf, ve, vee, vk, rfl, hf, he, hee, _⟩ := h
  have hf0 := hf
  obtain ⟨af, cf, hvf, _⟩ := hf0
  obtain ⟨nf, hnf⟩ : ∃ nf, nf = (f.map fv).length := ⟨_, rfl⟩
  obtain ⟨vs, hvs, hvl, hvi⟩ := hee
  have he0 := hvs
  obtain ⟨ae, ce, hve, _⟩ := he0
  obtain ⟨ne, hne⟩ : ∃ ne, ne = vs.length := ⟨_, rfl⟩
  rw [← hne] at hve
  rw [← hnf] at hvf
  obtain ⟨W1, hW1⟩ : ∃ W1, W1 = w.alloc (.cells #[.int .i64 6, .int .i64 l, .int .i64 s, vf, ve, vee, vk] 27) := ⟨_, rfl⟩
  obtain ⟨b1, hb1⟩ : ∃ b1, b1 = w.heap.size := ⟨_, rfl⟩
  have hbox : Box W1 b1 6 l s vf ve vee vk := by unfold Box; rw [hW1, hb1]; exact heap_alloc_new w _
  have hwW : Below w.heap.size w W1 := by rw [hW1]; exact (Below.refl w.heap.size w).alloc (Nat.le_refl _) _
  have hsz : W1.heap.size = w.heap.size + 1 := by rw [hW1]; simp
  have hb1s : b1 < W1.heap.size := by omega
  have HF : Hid (∀ w', Below W1.heap.size W1 w' → Calls Tryz.prog 27 #[vf] w' fun e w2 => ∃ a c, e = .returned (.slice a nf c) ∧ w2.cell? ⟨b1, 1, none⟩ = some (.int .i64 l) ∧ w2.cell? ⟨b1, 3, none⟩ = some vf ∧ Hid (OwnS w2 (Betw W1 w2) (.slice a nf c) (f.map fv) ∧ Below W1.heap.size W1 w2)) := Lib.hid (by
    intro w' hb
    refine (floatsCopy w' B vf (f.map fv) (hf.below ((hwW.trans (hb.mono (by omega))).mono hB)) (oneF f)).mono ?_
    rintro en w2 ⟨v', rfl, ho, hbl⟩
    obtain ⟨a, c, hv⟩ := ho.lit
    rw [← hnf] at hv
    subst hv
    have hb2 : Below W1.heap.size W1 w2 := hb.trans (hbl.mono hb.size)
    have hbx := hbox.below hb2 hb1s
    exact ⟨a, c, rfl, hbx.c1, hbx.c3, Lib.hid ⟨ho.frame (fun b hb' => ⟨by have := hb.size; have := hb'.1; omega, hb'.2⟩) (fun _ _ => rfl), hb2⟩⟩)
  have q0 := hbox.c0
  have q1 := hbox.c1
  have q3 := hbox.c3
  have HBX := Lib.hid hbox
  have HW := Lib.hid hwW
  have HS := Lib.hid hsz
  have HE := Lib.hid hvs
  have HNE := Lib.hid hne
  have HVL := Lib.hid hvl
  have HVI := Lib.hid hvi
  have HNF := Lib.hid hnf
  clear hf he hnf hbox hwW hsz hne hvs hvl hvi
  subst hvf
  subst hve
  go_enter Tryz.func17, Tryz.ntmps17
  go_upto_region 1 with (fail)
  rw [← hW1, ← hb1]
  have HB1 := Lib.hid hb1
  clear hW1 hb1
  go_cut [3, 4] (fun v3 v4 wx => ∃ a c, v3 = .int .i64 l ∧ v4 = .slice a nf c ∧ Hid (OwnS wx (Betw W1 wx) (.slice a nf c) (f.map fv) ∧ Below W1.heap.size W1 wx))
  case first =>
    go_region_with (go_at_call 27; refine (HF.out _ ?_).mono ?_; exact ⟨rfl, rfl, rfl, Nat.le_refl _, fun _ _ => rfl⟩; rintro en w2 ⟨a, c, rfl, d1, d3, HO⟩)
    all_goals
      go_wp2_with fail
      go_meet
      exact ⟨a, c, rfl, rfl, HO⟩
  case rest =>
    obtain ⟨a, c, rfl, rfl, HO⟩ := hcut
    generalize wc = w2 at *
    have hbox2 := HBX.out.below HO.out.2 hb1s
    have r0 := hbox2.c0
    have r2 := hbox2.c2
    have r5 := hbox2.c5
    have hb12 : b1 < w2.heap.size := by have := HO.out.2.size; omega
    have HBX2 := Lib.hid hbox2
    clear q0 q1 q3 HF hbox2
    have HI : Hid (∀ w', Below w2.heap.size w2 w' → Calls Tryz.prog 43 #[.slice ae ne ce] w' fun e' w3 => ∃ a4 c4, e' = .returned (.slice a4 ne c4) ∧ w3.cell? ⟨b1, 2, none⟩ = some (.int .i64 s) ∧ Hid ((∃ vs, OwnS w3 (Betw w2 w3) (.slice a4 ne c4) vs ∧ vs.length = ee.length ∧ ∀ (i : Nat) (x : Value) (es : List Int), vs[i]? = some x → ee[i]? = some es → OwnS w3 (Betw w2 w3) x (es.map iv)) ∧ Below w2.heap.size w2 w3)) := Lib.hid (by
      intro w' hb
      have hbB := ((HW.out.trans ((HO.out.2.trans (hb.mono HO.out.2.size)).mono (by have := HS.out; omega))).mono hB)
      refine (intssCopy w' B (.slice ae ne ce) vs ee (HE.out.below hbB) HVL.out (by have := hb.size; have := HO.out.2.size; have := HS.out; omega) (fun i x es hx he => (HVI.out i x es hx he).below hbB)).mono ?_
      rintro en w3 ⟨v', vs', rfl, ho, hlv, hiv, hbl⟩
      obtain ⟨a4, c4, hv⟩ := ho.lit
      rw [hlv, ← HVL.out, ← HNE.out] at hv
      subst hv
      have hb2 : Below w2.heap.size w2 w3 := hb.trans (hbl.mono hb.size)
      have hbx := HBX2.out.below hb2 hb12
      exact ⟨a4, c4, rfl, hbx.c2, Lib.hid ⟨⟨vs', ho.frame (fun b hb' => ⟨by have := hb.size; have := hb'.1; omega, hb'.2⟩) (fun _ _ => rfl), hlv, fun i x es hx he => (hiv i x es hx he).frame (fun b hb' => ⟨by have := hb.size; have := hb'.1; omega, hb'.2⟩) (fun _ _ => rfl)⟩, hb2⟩⟩)
    have HN : Hid (∀ w' a4 c4, Below w2.heap.size w2 w' → Calls Tryz.prog 42 #[.int .i64 l, .slice a nf c, .slice a4 ne c4] w' fun e' w3 => ∃ ob, e' = .returned (.pointer (some ⟨ob, 0, none⟩)) ∧ w3.cell? ⟨b1, 2, none⟩ = some (.int .i64 s) ∧ Hid (w'.heap.size ≤ ob ∧ w3.heap[ob]? = some (.cells #[.int .i64 l, .int .i64 (stride l), .slice a nf c, .int .i64 0, .slice a4 ne c4] 122 (0, 0)) ∧ Below w'.heap.size w' w3)) := Lib.hid (by
      intro w' a4 c4 hb
      refine (newPolys w' l a a4 nf c ne c4).mono ?_
      rintro en w3 ⟨rfl, rfl⟩
      have hbb : Below w'.heap.size w' (w'.alloc (.cells #[.int .i64 l, .int .i64 (stride l), .slice a nf c, .int .i64 0, .slice a4 ne c4] 122)) := (Below.refl _ _).alloc (Nat.le_refl _) _
      exact ⟨_, rfl, (HBX2.out.below (hb.trans (hbb.mono hb.size)) hb12).c2, Lib.hid ⟨Nat.le_refl _, heap_alloc_new w' _, hbb⟩⟩)
    have HSR : Hid (∀ w3 ob a4 c4, w3.heap[ob]? = some (.cells #[.int .i64 l, .int .i64 (stride l), .slice a nf c, .int .i64 0, .slice a4 ne c4] 122 (0, 0)) → Calls Tryz.prog 44 #[.pointer (some ⟨ob, 0, none⟩), .int .i64 s] w3 fun e' w4 => e' = .returned (.pointer (some ⟨ob, 0, none⟩)) ∧ w4 = w3.setCell ⟨ob, 3, none⟩ (.int .i64 s)) := Lib.hid (by
      intro w3 ob a4 c4 hh
      exact sridPolys w3 ob s (.int .i64 0) (by rw [Lib.cell_of_heap hh]; rfl) (Lib.frozen_of_heap hh 3))
    clear HE
    go_wp2_with fail
    go_region_with (first
      | (go_at_call 43; refine (HI.out _ ?_).mono ?_; exact ⟨rfl, rfl, rfl, Nat.le_refl _, fun _ _ => rfl⟩; rintro en w3 ⟨a4, c4, rfl, d2, HQ⟩)
      | (go_at_call 42; refine (HN.out _ _ _ ?_).mono ?_; exact HQ.out.2; rintro en w4 ⟨ob, rfl, d3, HR⟩)
      | (go_at_call 44; refine (HSR.out _ _ a4 c4 ?_).mono ?_; exact HR.out.2.1; rintro en w5 ⟨rfl, rfl⟩))
    all_goals
      go_wp2_with fail
      go_ret
      obtain ⟨⟨vs', u1, u3, u4⟩, u2⟩ := HQ.out
      obtain ⟨o1, o2, o3⟩ := HR.out
      obtain ⟨s1, s2, s3⟩ := setc_block o2 3 (.int .i64 s) (by show 3 < 5; decide)
      generalize w4.setCell ⟨ob, 3, none⟩ (.int .i64 s) = w5 at *
      have t0 := u2.size
      have t1 := HO.out.2.size
      have t2 := o3.size
      have t3 := s2.size
      have t4 := HS.out
      have t5 := HB1.out
      have hbW : Below w.heap.size w w5 := HW.out.trans ((HO.out.2.trans (u2.mono t1)).mono (by omega) |>.trans ((o3.mono (by omega)).trans (s2.mono (by omega))))
      refine ⟨_, rfl, ?_, hbW⟩
      unfold RepS
      refine ⟨ob, rfl, ⟨by omega, lt_of_block s1⟩, by rw [Lib.cell_of_heap s1]; rfl, fun _ => ⟨_, by rw [Lib.cell_of_heap s1]; rfl, HO.out.1.frame (fun b hb => ⟨by have := hb.1; omega, by have := hb.2; omega⟩) (fun b hb => by rw [s3 b (by have := hb.2; omega), o3.block b (by have := hb.2; omega)]; exact u2.block b hb.2)⟩, fun h => absurd h (by decide), fun _ => ⟨_, vs', by rw [Lib.cell_of_heap s1]; rfl, u1.frame (fun b hb => ⟨by have := hb.1; omega, by have := hb.2; omega⟩) (fun b hb => by rw [s3 b (by have := hb.2; omega)]; exact o3.block b hb.2), u3, fun i x es hx he => (u4 i x es hx he).frame (fun b hb => ⟨by have := hb.1; omega, by have := hb.2; omega⟩) (fun b hb => by rw [s3 b (by have := hb.2; omega)]; exact o3.block b hb.2)⟩, fun h => absurd h (by decide)⟩
end Go.Proofs.YtlmilelopajdiaaGreatDoor
