/-
  The statement's side: body of what has no parts, and of what is empty.
-/
import Derived.Test.YtlmilelopajdiaaGreatDoorUK0
import Derived.Test.YtlmilelopajdiaaGreatDoorUK3
namespace Go.Proofs.YtlmilelopajdiaaGreatDoor
open Go.RowKit

set_option maxRecDepth 100000 in
set_option maxHeartbeats 4000000 in
theorem body1k1 (l s : Int) (f : List Nat) (e : List Int) (ee : List (List Int)) (kids : List Gm) (hX : GoodX (.mk 1 l s f e ee kids)) (hF : Fit (.mk 1 l s f e ee kids)) (w : World) (B : Nat) (cs : List Value) (h : ARep w B (.mk 1 l s f e ee kids) cs) (hB : B ≤ w.heap.size) (hN9 : numP (.mk 1 l s f e ee kids) ≤ 1000000) (st : Nat) (dg : Int) (whole : Bool) (hx : ∀ x ∈ f, x < 18446744073709551616) (hT : Tabs w.heap.size w) (d0 : -1 ≤ dg) (d1 : dg ≤ 20) (hst : 1 ≤ st) (hst2 : st ≤ 1000) (hlen : (lineS dg st f).length ≤ 70000000000000) :
    Calls Tryz.prog 12 #[.agg cs.toArray, .int .i64 (st : Nat), .int .i64 dg, .bool whole] w fun en w' => BodyOut (plT dg st f) true w en w' := by
  obtain ⟨s', a3, p3, a4, p4, a5, p5, a6, p6, hcs⟩ := arep_lit h
  simp only [Gm.kind, Gm.layout, Gm.flat, Gm.ends, Gm.endss, Gm.kids] at hcs
  obtain ⟨n3, hn3⟩ : ∃ n, n = f.length := ⟨_, rfl⟩
  obtain ⟨n4, hn4⟩ : ∃ n, n = e.length := ⟨_, rfl⟩
  obtain ⟨n5, hn5⟩ : ∃ n, n = ee.length := ⟨_, rfl⟩
  obtain ⟨n6, hn6⟩ : ∃ n, n = kids.length := ⟨_, rfl⟩
  rw [← hn3, ← hn4, ← hn5, ← hn6] at hcs
  obtain ⟨N, hN⟩ : ∃ N, N = numP (.mk 1 l s f e ee kids) := ⟨_, rfl⟩
  have hN9' : N ≤ 1000000 := by omega
  obtain ⟨W1, hW1⟩ : ∃ W1, W1 = w.alloc (.cells #[.int .i64 1, .int .i64 l, .int .i64 s', .slice a3 n3 p3, .slice a4 n4 p4, .slice a5 n5 p5, .slice a6 n6 p6] 27) := ⟨_, rfl⟩
  have hbw : Below w.heap.size w W1 := by rw [hW1]; exact (Below.refl _ _).alloc (Nat.le_refl _) _
  have hsz : W1.heap.size = w.heap.size + 1 := by rw [hW1]; simp
  have hbx : Box W1 w.heap.size 1 l s' (.slice a3 n3 p3) (.slice a4 n4 p4) (.slice a5 n5 p5) (.slice a6 n6 p6) := by unfold Box; rw [hW1]; exact heap_alloc_new w _
  have HPA : Hid (Calls Tryz.prog 23 #[.agg #[.int .i64 1, .int .i64 l, .int .i64 s', .slice a3 n3 p3, .slice a4 n4 p4, .slice a5 n5 p5, .slice a6 n6 p6]] W1 fun en w'' => PartsAns (.mk 1 l s f e ee kids) W1 en w'') := Lib.hid (by
    have := partsAns _ hX hF W1 B cs (ARep.below (hbw.mono hB) (Nat.le_refl _) _ cs h) (by omega) (by omega)
    rw [hcs] at this
    exact this)
  have HPL : Hid (∀ w', Below w.heap.size w w' → Calls Tryz.prog 24 #[.slice a3 n3 p3, .int .i64 (st : Nat), .int .i64 dg] w' fun e w'' => e = .returned (.string ⟨(plT dg st f).toArray⟩) ∧ Below w'.heap.size w' w'') := Lib.hid (by
    intro w' hb
    have hr : Row w B (.slice a3 n3 p3) (f.map fv) := by
      have h' := h
      rw [arep_eq] at h'
      obtain ⟨vf, ve, vee, vk, e1, hrf, _⟩ := h'
      rw [hcs] at e1
      simp only [List.cons.injEq, and_true] at e1
      rw [e1.2.2.2.1]; exact hrf
    exact places f dg st w'.heap.size _ w' (((hr.mono hB).below hb).mono hb.size) hx ((hT.below hb).mono hb.size) (Nat.le_refl _) d0 d1 hst hst2 hlen)
  rw [hcs]
  have HNN := Lib.hid hN
  have q0 := hbx.c0
  have q1 := hbx.c1
  have q2 := hbx.c2
  have q3 := hbx.c3
  have q4 := hbx.c4
  have q5 := hbx.c5
  have q6 := hbx.c6
  obtain ⟨b1, hb1⟩ : ∃ b1, b1 = w.heap.size := ⟨_, rfl⟩
  have HSZ : Hid (W1.heap.size = b1 + 1) := Lib.hid (by rw [hb1]; exact hsz)
  rw [← hb1] at q0 q1 q2 q3 q4 q5 q6 hbx
  have HBX := Lib.hid hbx
  have HBW := Lib.hid hbw
  clear hn3 hn4 hn5 hn6 hcs hbx hbw h hN hB hsz hX hF hN9 hx hT d0 d1 hst hst2 hlen
  go_enter Tryz.func12, Tryz.ntmps12
  go_wp2_with fail
  rw [← hW1, ← hb1]
  have HB1 := Lib.hid hb1
  clear hW1 hb1
  refine HPA.out.mono ?_
  rintro en w2 ⟨v, css, rfl, hrk, hcl, _, hb2⟩
  rw [← HNN.out] at hcl
  obtain ⟨a9, c9, hv⟩ := hrk.lit
  rw [hcl] at hv
  subst hv
  have HBx2 := Lib.hid (HBX.out.below hb2 (by have := HSZ.out; omega))
  have HB2 := Lib.hid (HBW.out.trans (hb2.mono (by have := HSZ.out; have := HB1.out; omega)))
  have t0 := HBx2.out.c0
  have t3 := HBx2.out.c3
  clear hrk hcl hb2 q0 q1 q2 q3 q4 q5 q6 HPA HBX
  go_wp2_with fail
  refine (HPL.out _ HB2.out).mono ?_
  rintro en w3 ⟨rfl, hb3⟩
  have HB3 := Lib.hid (HB2.out.trans (hb3.mono HB2.out.size))
  clear hb3 HPL
  go_wp2_with fail
  go_ret2
  exact ⟨rfl, HB3.out⟩

set_option maxRecDepth 100000 in
set_option maxHeartbeats 4000000 in
theorem body1k2 (l s : Int) (f : List Nat) (e : List Int) (ee : List (List Int)) (kids : List Gm) (hX : GoodX (.mk 2 l s f e ee kids)) (hF : Fit (.mk 2 l s f e ee kids)) (w : World) (B : Nat) (cs : List Value) (h : ARep w B (.mk 2 l s f e ee kids) cs) (hB : B ≤ w.heap.size) (hN9 : numP (.mk 2 l s f e ee kids) ≤ 1000000) (st : Nat) (dg : Int) (whole : Bool) (hx : ∀ x ∈ f, x < 18446744073709551616) (hT : Tabs w.heap.size w) (d0 : -1 ≤ dg) (d1 : dg ≤ 20) (hst : 1 ≤ st) (hst2 : st ≤ 1000) (hlen : (lineS dg st f).length ≤ 70000000000000) :
    Calls Tryz.prog 12 #[.agg cs.toArray, .int .i64 (st : Nat), .int .i64 dg, .bool whole] w fun en w' => BodyOut (plT dg st f) true w en w' := by
  obtain ⟨s', a3, p3, a4, p4, a5, p5, a6, p6, hcs⟩ := arep_lit h
  simp only [Gm.kind, Gm.layout, Gm.flat, Gm.ends, Gm.endss, Gm.kids] at hcs
  obtain ⟨n3, hn3⟩ : ∃ n, n = f.length := ⟨_, rfl⟩
  obtain ⟨n4, hn4⟩ : ∃ n, n = e.length := ⟨_, rfl⟩
  obtain ⟨n5, hn5⟩ : ∃ n, n = ee.length := ⟨_, rfl⟩
  obtain ⟨n6, hn6⟩ : ∃ n, n = kids.length := ⟨_, rfl⟩
  rw [← hn3, ← hn4, ← hn5, ← hn6] at hcs
  obtain ⟨N, hN⟩ : ∃ N, N = numP (.mk 2 l s f e ee kids) := ⟨_, rfl⟩
  have hN9' : N ≤ 1000000 := by omega
  obtain ⟨W1, hW1⟩ : ∃ W1, W1 = w.alloc (.cells #[.int .i64 2, .int .i64 l, .int .i64 s', .slice a3 n3 p3, .slice a4 n4 p4, .slice a5 n5 p5, .slice a6 n6 p6] 27) := ⟨_, rfl⟩
  have hbw : Below w.heap.size w W1 := by rw [hW1]; exact (Below.refl _ _).alloc (Nat.le_refl _) _
  have hsz : W1.heap.size = w.heap.size + 1 := by rw [hW1]; simp
  have hbx : Box W1 w.heap.size 2 l s' (.slice a3 n3 p3) (.slice a4 n4 p4) (.slice a5 n5 p5) (.slice a6 n6 p6) := by unfold Box; rw [hW1]; exact heap_alloc_new w _
  have HPA : Hid (Calls Tryz.prog 23 #[.agg #[.int .i64 2, .int .i64 l, .int .i64 s', .slice a3 n3 p3, .slice a4 n4 p4, .slice a5 n5 p5, .slice a6 n6 p6]] W1 fun en w'' => PartsAns (.mk 2 l s f e ee kids) W1 en w'') := Lib.hid (by
    have := partsAns _ hX hF W1 B cs (ARep.below (hbw.mono hB) (Nat.le_refl _) _ cs h) (by omega) (by omega)
    rw [hcs] at this
    exact this)
  have HPL : Hid (∀ w', Below w.heap.size w w' → Calls Tryz.prog 24 #[.slice a3 n3 p3, .int .i64 (st : Nat), .int .i64 dg] w' fun e w'' => e = .returned (.string ⟨(plT dg st f).toArray⟩) ∧ Below w'.heap.size w' w'') := Lib.hid (by
    intro w' hb
    have hr : Row w B (.slice a3 n3 p3) (f.map fv) := by
      have h' := h
      rw [arep_eq] at h'
      obtain ⟨vf, ve, vee, vk, e1, hrf, _⟩ := h'
      rw [hcs] at e1
      simp only [List.cons.injEq, and_true] at e1
      rw [e1.2.2.2.1]; exact hrf
    exact places f dg st w'.heap.size _ w' (((hr.mono hB).below hb).mono hb.size) hx ((hT.below hb).mono hb.size) (Nat.le_refl _) d0 d1 hst hst2 hlen)
  rw [hcs]
  have HNN := Lib.hid hN
  have q0 := hbx.c0
  have q1 := hbx.c1
  have q2 := hbx.c2
  have q3 := hbx.c3
  have q4 := hbx.c4
  have q5 := hbx.c5
  have q6 := hbx.c6
  obtain ⟨b1, hb1⟩ : ∃ b1, b1 = w.heap.size := ⟨_, rfl⟩
  have HSZ : Hid (W1.heap.size = b1 + 1) := Lib.hid (by rw [hb1]; exact hsz)
  rw [← hb1] at q0 q1 q2 q3 q4 q5 q6 hbx
  have HBX := Lib.hid hbx
  have HBW := Lib.hid hbw
  clear hn3 hn4 hn5 hn6 hcs hbx hbw h hN hB hsz hX hF hN9 hx hT d0 d1 hst hst2 hlen
  go_enter Tryz.func12, Tryz.ntmps12
  go_wp2_with fail
  rw [← hW1, ← hb1]
  have HB1 := Lib.hid hb1
  clear hW1 hb1
  refine HPA.out.mono ?_
  rintro en w2 ⟨v, css, rfl, hrk, hcl, _, hb2⟩
  rw [← HNN.out] at hcl
  obtain ⟨a9, c9, hv⟩ := hrk.lit
  rw [hcl] at hv
  subst hv
  have HBx2 := Lib.hid (HBX.out.below hb2 (by have := HSZ.out; omega))
  have HB2 := Lib.hid (HBW.out.trans (hb2.mono (by have := HSZ.out; have := HB1.out; omega)))
  have t0 := HBx2.out.c0
  have t3 := HBx2.out.c3
  clear hrk hcl hb2 q0 q1 q2 q3 q4 q5 q6 HPA HBX
  go_wp2_with fail
  refine (HPL.out _ HB2.out).mono ?_
  rintro en w3 ⟨rfl, hb3⟩
  have HB3 := Lib.hid (HB2.out.trans (hb3.mono HB2.out.size))
  clear hb3 HPL
  go_wp2_with fail
  go_ret2
  exact ⟨rfl, HB3.out⟩

set_option maxRecDepth 100000 in
set_option maxHeartbeats 4000000 in
theorem body1k8 (l s : Int) (f : List Nat) (e : List Int) (ee : List (List Int)) (kids : List Gm) (hX : GoodX (.mk 8 l s f e ee kids)) (hF : Fit (.mk 8 l s f e ee kids)) (w : World) (B : Nat) (cs : List Value) (h : ARep w B (.mk 8 l s f e ee kids) cs) (hB : B ≤ w.heap.size) (hN9 : numP (.mk 8 l s f e ee kids) ≤ 1000000) (st : Nat) (dg : Int) (whole : Bool) (hx : ∀ x ∈ f, x < 18446744073709551616) (hT : Tabs w.heap.size w) (d0 : -1 ≤ dg) (d1 : dg ≤ 20) (hst : 1 ≤ st) (hst2 : st ≤ 1000) (hlen : (lineS dg st f).length ≤ 70000000000000) :
    Calls Tryz.prog 12 #[.agg cs.toArray, .int .i64 (st : Nat), .int .i64 dg, .bool whole] w fun en w' => BodyOut (plT dg st f) true w en w' := by
  obtain ⟨s', a3, p3, a4, p4, a5, p5, a6, p6, hcs⟩ := arep_lit h
  simp only [Gm.kind, Gm.layout, Gm.flat, Gm.ends, Gm.endss, Gm.kids] at hcs
  obtain ⟨n3, hn3⟩ : ∃ n, n = f.length := ⟨_, rfl⟩
  obtain ⟨n4, hn4⟩ : ∃ n, n = e.length := ⟨_, rfl⟩
  obtain ⟨n5, hn5⟩ : ∃ n, n = ee.length := ⟨_, rfl⟩
  obtain ⟨n6, hn6⟩ : ∃ n, n = kids.length := ⟨_, rfl⟩
  rw [← hn3, ← hn4, ← hn5, ← hn6] at hcs
  obtain ⟨N, hN⟩ : ∃ N, N = numP (.mk 8 l s f e ee kids) := ⟨_, rfl⟩
  have hN9' : N ≤ 1000000 := by omega
  obtain ⟨W1, hW1⟩ : ∃ W1, W1 = w.alloc (.cells #[.int .i64 8, .int .i64 l, .int .i64 s', .slice a3 n3 p3, .slice a4 n4 p4, .slice a5 n5 p5, .slice a6 n6 p6] 27) := ⟨_, rfl⟩
  have hbw : Below w.heap.size w W1 := by rw [hW1]; exact (Below.refl _ _).alloc (Nat.le_refl _) _
  have hsz : W1.heap.size = w.heap.size + 1 := by rw [hW1]; simp
  have hbx : Box W1 w.heap.size 8 l s' (.slice a3 n3 p3) (.slice a4 n4 p4) (.slice a5 n5 p5) (.slice a6 n6 p6) := by unfold Box; rw [hW1]; exact heap_alloc_new w _
  have HPA : Hid (Calls Tryz.prog 23 #[.agg #[.int .i64 8, .int .i64 l, .int .i64 s', .slice a3 n3 p3, .slice a4 n4 p4, .slice a5 n5 p5, .slice a6 n6 p6]] W1 fun en w'' => PartsAns (.mk 8 l s f e ee kids) W1 en w'') := Lib.hid (by
    have := partsAns _ hX hF W1 B cs (ARep.below (hbw.mono hB) (Nat.le_refl _) _ cs h) (by omega) (by omega)
    rw [hcs] at this
    exact this)
  have HPL : Hid (∀ w', Below w.heap.size w w' → Calls Tryz.prog 24 #[.slice a3 n3 p3, .int .i64 (st : Nat), .int .i64 dg] w' fun e w'' => e = .returned (.string ⟨(plT dg st f).toArray⟩) ∧ Below w'.heap.size w' w'') := Lib.hid (by
    intro w' hb
    have hr : Row w B (.slice a3 n3 p3) (f.map fv) := by
      have h' := h
      rw [arep_eq] at h'
      obtain ⟨vf, ve, vee, vk, e1, hrf, _⟩ := h'
      rw [hcs] at e1
      simp only [List.cons.injEq, and_true] at e1
      rw [e1.2.2.2.1]; exact hrf
    exact places f dg st w'.heap.size _ w' (((hr.mono hB).below hb).mono hb.size) hx ((hT.below hb).mono hb.size) (Nat.le_refl _) d0 d1 hst hst2 hlen)
  rw [hcs]
  have HNN := Lib.hid hN
  have q0 := hbx.c0
  have q1 := hbx.c1
  have q2 := hbx.c2
  have q3 := hbx.c3
  have q4 := hbx.c4
  have q5 := hbx.c5
  have q6 := hbx.c6
  obtain ⟨b1, hb1⟩ : ∃ b1, b1 = w.heap.size := ⟨_, rfl⟩
  have HSZ : Hid (W1.heap.size = b1 + 1) := Lib.hid (by rw [hb1]; exact hsz)
  rw [← hb1] at q0 q1 q2 q3 q4 q5 q6 hbx
  have HBX := Lib.hid hbx
  have HBW := Lib.hid hbw
  clear hn3 hn4 hn5 hn6 hcs hbx hbw h hN hB hsz hX hF hN9 hx hT d0 d1 hst hst2 hlen
  go_enter Tryz.func12, Tryz.ntmps12
  go_wp2_with fail
  rw [← hW1, ← hb1]
  have HB1 := Lib.hid hb1
  clear hW1 hb1
  refine HPA.out.mono ?_
  rintro en w2 ⟨v, css, rfl, hrk, hcl, _, hb2⟩
  rw [← HNN.out] at hcl
  obtain ⟨a9, c9, hv⟩ := hrk.lit
  rw [hcl] at hv
  subst hv
  have HBx2 := Lib.hid (HBX.out.below hb2 (by have := HSZ.out; omega))
  have HB2 := Lib.hid (HBW.out.trans (hb2.mono (by have := HSZ.out; have := HB1.out; omega)))
  have t0 := HBx2.out.c0
  have t3 := HBx2.out.c3
  clear hrk hcl hb2 q0 q1 q2 q3 q4 q5 q6 HPA HBX
  go_wp2_with fail
  refine (HPL.out _ HB2.out).mono ?_
  rintro en w3 ⟨rfl, hb3⟩
  have HB3 := Lib.hid (HB2.out.trans (hb3.mono HB2.out.size))
  clear hb3 HPL
  go_wp2_with fail
  go_ret2
  exact ⟨rfl, HB3.out⟩

set_option maxRecDepth 100000 in
set_option maxHeartbeats 4000000 in
theorem bodyE3a (l s : Int) (f : List Nat) (e : List Int) (ee : List (List Int)) (kids : List Gm) (hX : GoodX (.mk 3 l s f e ee kids)) (hF : Fit (.mk 3 l s f e ee kids)) (w : World) (B : Nat) (cs : List Value) (h : ARep w B (.mk 3 l s f e ee kids) cs) (hB : B ≤ w.heap.size) (hN9 : numP (.mk 3 l s f e ee kids) ≤ 1000000) (st : Nat) (dg : Int) (whole : Bool) (hf : f = []) (hw : whole = true) :
    Calls Tryz.prog 12 #[.agg cs.toArray, .int .i64 (st : Nat), .int .i64 dg, .bool whole] w fun en w' => BodyOut EMPTY true w en w' := by
  obtain ⟨s', a3, p3, a4, p4, a5, p5, a6, p6, hcs⟩ := arep_lit h
  simp only [Gm.kind, Gm.layout, Gm.flat, Gm.ends, Gm.endss, Gm.kids] at hcs
  obtain ⟨n3, hn3⟩ : ∃ n, n = f.length := ⟨_, rfl⟩
  obtain ⟨n4, hn4⟩ : ∃ n, n = e.length := ⟨_, rfl⟩
  obtain ⟨n5, hn5⟩ : ∃ n, n = ee.length := ⟨_, rfl⟩
  obtain ⟨n6, hn6⟩ : ∃ n, n = kids.length := ⟨_, rfl⟩
  rw [← hn3, ← hn4, ← hn5, ← hn6] at hcs
  obtain ⟨N, hN⟩ : ∃ N, N = numP (.mk 3 l s f e ee kids) := ⟨_, rfl⟩
  have hN9' : N ≤ 1000000 := by omega
  obtain ⟨W1, hW1⟩ : ∃ W1, W1 = w.alloc (.cells #[.int .i64 3, .int .i64 l, .int .i64 s', .slice a3 n3 p3, .slice a4 n4 p4, .slice a5 n5 p5, .slice a6 n6 p6] 27) := ⟨_, rfl⟩
  have hbw : Below w.heap.size w W1 := by rw [hW1]; exact (Below.refl _ _).alloc (Nat.le_refl _) _
  have hsz : W1.heap.size = w.heap.size + 1 := by rw [hW1]; simp
  have hbx : Box W1 w.heap.size 3 l s' (.slice a3 n3 p3) (.slice a4 n4 p4) (.slice a5 n5 p5) (.slice a6 n6 p6) := by unfold Box; rw [hW1]; exact heap_alloc_new w _
  have HPA : Hid (Calls Tryz.prog 23 #[.agg #[.int .i64 3, .int .i64 l, .int .i64 s', .slice a3 n3 p3, .slice a4 n4 p4, .slice a5 n5 p5, .slice a6 n6 p6]] W1 fun en w'' => PartsAns (.mk 3 l s f e ee kids) W1 en w'') := Lib.hid (by
    have := partsAns _ hX hF W1 B cs (ARep.below (hbw.mono hB) (Nat.le_refl _) _ cs h) (by omega) (by omega)
    rw [hcs] at this
    exact this)
  have hn30 : n3 = 0 := by rw [hn3, hf]; rfl
  subst hw hn30
  rw [hcs]
  have HNN := Lib.hid hN
  have q0 := hbx.c0
  have q1 := hbx.c1
  have q2 := hbx.c2
  have q3 := hbx.c3
  have q4 := hbx.c4
  have q5 := hbx.c5
  have q6 := hbx.c6
  obtain ⟨b1, hb1⟩ : ∃ b1, b1 = w.heap.size := ⟨_, rfl⟩
  have HSZ : Hid (W1.heap.size = b1 + 1) := Lib.hid (by rw [hb1]; exact hsz)
  rw [← hb1] at q0 q1 q2 q3 q4 q5 q6 hbx
  have HBX := Lib.hid hbx
  have HBW := Lib.hid hbw
  clear hn3 hn4 hn5 hn6 hcs hbx hbw h hN hB hsz hX hF hN9 hf
  go_enter Tryz.func12, Tryz.ntmps12
  go_wp2_with fail
  rw [← hW1, ← hb1]
  have HB1 := Lib.hid hb1
  clear hW1 hb1
  refine HPA.out.mono ?_
  rintro en w2 ⟨v, css, rfl, hrk, hcl, _, hb2⟩
  rw [← HNN.out] at hcl
  obtain ⟨a9, c9, hv⟩ := hrk.lit
  rw [hcl] at hv
  subst hv
  have HBx2 := Lib.hid (HBX.out.below hb2 (by have := HSZ.out; omega))
  have HB2 := Lib.hid (HBW.out.trans (hb2.mono (by have := HSZ.out; have := HB1.out; omega)))
  have t0 := HBx2.out.c0
  have t3 := HBx2.out.c3
  clear hrk hcl hb2 q0 q1 q2 q3 q4 q5 q6 HPA HBX
  go_wp2_with fail
  go_ret2
  exact ⟨rfl, HB2.out⟩

set_option maxRecDepth 100000 in
set_option maxHeartbeats 4000000 in
theorem bodyE3b (l s : Int) (f : List Nat) (e : List Int) (ee : List (List Int)) (kids : List Gm) (hX : GoodX (.mk 3 l s f e ee kids)) (hF : Fit (.mk 3 l s f e ee kids)) (w : World) (B : Nat) (cs : List Value) (h : ARep w B (.mk 3 l s f e ee kids) cs) (hB : B ≤ w.heap.size) (hN9 : numP (.mk 3 l s f e ee kids) ≤ 1000000) (st : Nat) (dg : Int) (whole : Bool) (hf : f = []) (hw : whole = false) (hN0 : numP (.mk 3 l s f e ee kids) = 0) :
    Calls Tryz.prog 12 #[.agg cs.toArray, .int .i64 (st : Nat), .int .i64 dg, .bool whole] w fun en w' => BodyOut EMPTY true w en w' := by
  obtain ⟨s', a3, p3, a4, p4, a5, p5, a6, p6, hcs⟩ := arep_lit h
  simp only [Gm.kind, Gm.layout, Gm.flat, Gm.ends, Gm.endss, Gm.kids] at hcs
  obtain ⟨n3, hn3⟩ : ∃ n, n = f.length := ⟨_, rfl⟩
  obtain ⟨n4, hn4⟩ : ∃ n, n = e.length := ⟨_, rfl⟩
  obtain ⟨n5, hn5⟩ : ∃ n, n = ee.length := ⟨_, rfl⟩
  obtain ⟨n6, hn6⟩ : ∃ n, n = kids.length := ⟨_, rfl⟩
  rw [← hn3, ← hn4, ← hn5, ← hn6] at hcs
  obtain ⟨N, hN⟩ : ∃ N, N = numP (.mk 3 l s f e ee kids) := ⟨_, rfl⟩
  have hN9' : N ≤ 1000000 := by omega
  obtain ⟨W1, hW1⟩ : ∃ W1, W1 = w.alloc (.cells #[.int .i64 3, .int .i64 l, .int .i64 s', .slice a3 n3 p3, .slice a4 n4 p4, .slice a5 n5 p5, .slice a6 n6 p6] 27) := ⟨_, rfl⟩
  have hbw : Below w.heap.size w W1 := by rw [hW1]; exact (Below.refl _ _).alloc (Nat.le_refl _) _
  have hsz : W1.heap.size = w.heap.size + 1 := by rw [hW1]; simp
  have hbx : Box W1 w.heap.size 3 l s' (.slice a3 n3 p3) (.slice a4 n4 p4) (.slice a5 n5 p5) (.slice a6 n6 p6) := by unfold Box; rw [hW1]; exact heap_alloc_new w _
  have HPA : Hid (Calls Tryz.prog 23 #[.agg #[.int .i64 3, .int .i64 l, .int .i64 s', .slice a3 n3 p3, .slice a4 n4 p4, .slice a5 n5 p5, .slice a6 n6 p6]] W1 fun en w'' => PartsAns (.mk 3 l s f e ee kids) W1 en w'') := Lib.hid (by
    have := partsAns _ hX hF W1 B cs (ARep.below (hbw.mono hB) (Nat.le_refl _) _ cs h) (by omega) (by omega)
    rw [hcs] at this
    exact this)
  have hn30 : n3 = 0 := by rw [hn3, hf]; rfl
  have hz : N = 0 := by omega
  subst hw hn30 hz
  rw [hcs]
  have HNN := Lib.hid hN
  have q0 := hbx.c0
  have q1 := hbx.c1
  have q2 := hbx.c2
  have q3 := hbx.c3
  have q4 := hbx.c4
  have q5 := hbx.c5
  have q6 := hbx.c6
  obtain ⟨b1, hb1⟩ : ∃ b1, b1 = w.heap.size := ⟨_, rfl⟩
  have HSZ : Hid (W1.heap.size = b1 + 1) := Lib.hid (by rw [hb1]; exact hsz)
  rw [← hb1] at q0 q1 q2 q3 q4 q5 q6 hbx
  have HBX := Lib.hid hbx
  have HBW := Lib.hid hbw
  clear hn3 hn4 hn5 hn6 hcs hbx hbw h hN hB hsz hX hF hN9 hf hN0
  go_enter Tryz.func12, Tryz.ntmps12
  go_wp2_with fail
  rw [← hW1, ← hb1]
  have HB1 := Lib.hid hb1
  clear hW1 hb1
  refine HPA.out.mono ?_
  rintro en w2 ⟨v, css, rfl, hrk, hcl, _, hb2⟩
  rw [← HNN.out] at hcl
  obtain ⟨a9, c9, hv⟩ := hrk.lit
  rw [hcl] at hv
  subst hv
  have HBx2 := Lib.hid (HBX.out.below hb2 (by have := HSZ.out; omega))
  have HB2 := Lib.hid (HBW.out.trans (hb2.mono (by have := HSZ.out; have := HB1.out; omega)))
  have t0 := HBx2.out.c0
  have t3 := HBx2.out.c3
  clear hrk hcl hb2 q0 q1 q2 q3 q4 q5 q6 HPA HBX
  go_wp2_with fail
  go_ret2
  exact ⟨rfl, HB2.out⟩

set_option maxRecDepth 100000 in
set_option maxHeartbeats 4000000 in
theorem bodyE3c (l s : Int) (f : List Nat) (e : List Int) (ee : List (List Int)) (kids : List Gm) (hX : GoodX (.mk 3 l s f e ee kids)) (hF : Fit (.mk 3 l s f e ee kids)) (w : World) (B : Nat) (cs : List Value) (h : ARep w B (.mk 3 l s f e ee kids) cs) (hB : B ≤ w.heap.size) (hN9 : numP (.mk 3 l s f e ee kids) ≤ 1000000) (st : Nat) (dg : Int) (whole : Bool) (hf : f ≠ []) (hN0 : numP (.mk 3 l s f e ee kids) = 0) :
    Calls Tryz.prog 12 #[.agg cs.toArray, .int .i64 (st : Nat), .int .i64 dg, .bool whole] w fun en w' => BodyOut EMPTY true w en w' := by
  obtain ⟨s', a3, p3, a4, p4, a5, p5, a6, p6, hcs⟩ := arep_lit h
  simp only [Gm.kind, Gm.layout, Gm.flat, Gm.ends, Gm.endss, Gm.kids] at hcs
  obtain ⟨n3, hn3⟩ : ∃ n, n = f.length := ⟨_, rfl⟩
  obtain ⟨n4, hn4⟩ : ∃ n, n = e.length := ⟨_, rfl⟩
  obtain ⟨n5, hn5⟩ : ∃ n, n = ee.length := ⟨_, rfl⟩
  obtain ⟨n6, hn6⟩ : ∃ n, n = kids.length := ⟨_, rfl⟩
  rw [← hn3, ← hn4, ← hn5, ← hn6] at hcs
  obtain ⟨N, hN⟩ : ∃ N, N = numP (.mk 3 l s f e ee kids) := ⟨_, rfl⟩
  have hN9' : N ≤ 1000000 := by omega
  obtain ⟨W1, hW1⟩ : ∃ W1, W1 = w.alloc (.cells #[.int .i64 3, .int .i64 l, .int .i64 s', .slice a3 n3 p3, .slice a4 n4 p4, .slice a5 n5 p5, .slice a6 n6 p6] 27) := ⟨_, rfl⟩
  have hbw : Below w.heap.size w W1 := by rw [hW1]; exact (Below.refl _ _).alloc (Nat.le_refl _) _
  have hsz : W1.heap.size = w.heap.size + 1 := by rw [hW1]; simp
  have hbx : Box W1 w.heap.size 3 l s' (.slice a3 n3 p3) (.slice a4 n4 p4) (.slice a5 n5 p5) (.slice a6 n6 p6) := by unfold Box; rw [hW1]; exact heap_alloc_new w _
  have HPA : Hid (Calls Tryz.prog 23 #[.agg #[.int .i64 3, .int .i64 l, .int .i64 s', .slice a3 n3 p3, .slice a4 n4 p4, .slice a5 n5 p5, .slice a6 n6 p6]] W1 fun en w'' => PartsAns (.mk 3 l s f e ee kids) W1 en w'') := Lib.hid (by
    have := partsAns _ hX hF W1 B cs (ARep.below (hbw.mono hB) (Nat.le_refl _) _ cs h) (by omega) (by omega)
    rw [hcs] at this
    exact this)
  have hn30 : ((n3 : Int) == 0) = false := beq_eq_false_iff_ne.2 (fun h0 => hf (List.length_eq_zero_iff.1 (by omega)))
  have hz : N = 0 := by omega
  subst hz
  rw [hcs]
  have HNN := Lib.hid hN
  have q0 := hbx.c0
  have q1 := hbx.c1
  have q2 := hbx.c2
  have q3 := hbx.c3
  have q4 := hbx.c4
  have q5 := hbx.c5
  have q6 := hbx.c6
  obtain ⟨b1, hb1⟩ : ∃ b1, b1 = w.heap.size := ⟨_, rfl⟩
  have HSZ : Hid (W1.heap.size = b1 + 1) := Lib.hid (by rw [hb1]; exact hsz)
  rw [← hb1] at q0 q1 q2 q3 q4 q5 q6 hbx
  have HBX := Lib.hid hbx
  have HBW := Lib.hid hbw
  clear hn3 hn4 hn5 hn6 hcs hbx hbw h hN hB hsz hX hF hN9 hf hN0
  go_enter Tryz.func12, Tryz.ntmps12
  go_wp2_with fail
  rw [← hW1, ← hb1]
  have HB1 := Lib.hid hb1
  clear hW1 hb1
  refine HPA.out.mono ?_
  rintro en w2 ⟨v, css, rfl, hrk, hcl, _, hb2⟩
  rw [← HNN.out] at hcl
  obtain ⟨a9, c9, hv⟩ := hrk.lit
  rw [hcl] at hv
  subst hv
  have HBx2 := Lib.hid (HBX.out.below hb2 (by have := HSZ.out; omega))
  have HB2 := Lib.hid (HBW.out.trans (hb2.mono (by have := HSZ.out; have := HB1.out; omega)))
  have t0 := HBx2.out.c0
  have t3 := HBx2.out.c3
  clear hrk hcl hb2 q0 q1 q2 q3 q4 q5 q6 HPA HBX
  go_wp2_with fail
  go_ret2
  exact ⟨rfl, HB2.out⟩

set_option maxRecDepth 100000 in
set_option maxHeartbeats 4000000 in
theorem bodyE4 (l s : Int) (f : List Nat) (e : List Int) (ee : List (List Int)) (kids : List Gm) (hX : GoodX (.mk 4 l s f e ee kids)) (hF : Fit (.mk 4 l s f e ee kids)) (w : World) (B : Nat) (cs : List Value) (h : ARep w B (.mk 4 l s f e ee kids) cs) (hB : B ≤ w.heap.size) (hN9 : numP (.mk 4 l s f e ee kids) ≤ 1000000) (st : Nat) (dg : Int) (whole : Bool) (hN0 : numP (.mk 4 l s f e ee kids) = 0) :
    Calls Tryz.prog 12 #[.agg cs.toArray, .int .i64 (st : Nat), .int .i64 dg, .bool whole] w fun en w' => BodyOut EMPTY true w en w' := by
  obtain ⟨s', a3, p3, a4, p4, a5, p5, a6, p6, hcs⟩ := arep_lit h
  simp only [Gm.kind, Gm.layout, Gm.flat, Gm.ends, Gm.endss, Gm.kids] at hcs
  obtain ⟨n3, hn3⟩ : ∃ n, n = f.length := ⟨_, rfl⟩
  obtain ⟨n4, hn4⟩ : ∃ n, n = e.length := ⟨_, rfl⟩
  obtain ⟨n5, hn5⟩ : ∃ n, n = ee.length := ⟨_, rfl⟩
  obtain ⟨n6, hn6⟩ : ∃ n, n = kids.length := ⟨_, rfl⟩
  rw [← hn3, ← hn4, ← hn5, ← hn6] at hcs
  obtain ⟨N, hN⟩ : ∃ N, N = numP (.mk 4 l s f e ee kids) := ⟨_, rfl⟩
  have hN9' : N ≤ 1000000 := by omega
  obtain ⟨W1, hW1⟩ : ∃ W1, W1 = w.alloc (.cells #[.int .i64 4, .int .i64 l, .int .i64 s', .slice a3 n3 p3, .slice a4 n4 p4, .slice a5 n5 p5, .slice a6 n6 p6] 27) := ⟨_, rfl⟩
  have hbw : Below w.heap.size w W1 := by rw [hW1]; exact (Below.refl _ _).alloc (Nat.le_refl _) _
  have hsz : W1.heap.size = w.heap.size + 1 := by rw [hW1]; simp
  have hbx : Box W1 w.heap.size 4 l s' (.slice a3 n3 p3) (.slice a4 n4 p4) (.slice a5 n5 p5) (.slice a6 n6 p6) := by unfold Box; rw [hW1]; exact heap_alloc_new w _
  have HPA : Hid (Calls Tryz.prog 23 #[.agg #[.int .i64 4, .int .i64 l, .int .i64 s', .slice a3 n3 p3, .slice a4 n4 p4, .slice a5 n5 p5, .slice a6 n6 p6]] W1 fun en w'' => PartsAns (.mk 4 l s f e ee kids) W1 en w'') := Lib.hid (by
    have := partsAns _ hX hF W1 B cs (ARep.below (hbw.mono hB) (Nat.le_refl _) _ cs h) (by omega) (by omega)
    rw [hcs] at this
    exact this)
  have hz : N = 0 := by omega
  subst hz
  rw [hcs]
  have HNN := Lib.hid hN
  have q0 := hbx.c0
  have q1 := hbx.c1
  have q2 := hbx.c2
  have q3 := hbx.c3
  have q4 := hbx.c4
  have q5 := hbx.c5
  have q6 := hbx.c6
  obtain ⟨b1, hb1⟩ : ∃ b1, b1 = w.heap.size := ⟨_, rfl⟩
  have HSZ : Hid (W1.heap.size = b1 + 1) := Lib.hid (by rw [hb1]; exact hsz)
  rw [← hb1] at q0 q1 q2 q3 q4 q5 q6 hbx
  have HBX := Lib.hid hbx
  have HBW := Lib.hid hbw
  clear hn3 hn4 hn5 hn6 hcs hbx hbw h hN hB hsz hX hF hN9 hN0
  go_enter Tryz.func12, Tryz.ntmps12
  go_wp2_with fail
  rw [← hW1, ← hb1]
  have HB1 := Lib.hid hb1
  clear hW1 hb1
  refine HPA.out.mono ?_
  rintro en w2 ⟨v, css, rfl, hrk, hcl, _, hb2⟩
  rw [← HNN.out] at hcl
  obtain ⟨a9, c9, hv⟩ := hrk.lit
  rw [hcl] at hv
  subst hv
  have HBx2 := Lib.hid (HBX.out.below hb2 (by have := HSZ.out; omega))
  have HB2 := Lib.hid (HBW.out.trans (hb2.mono (by have := HSZ.out; have := HB1.out; omega)))
  have t0 := HBx2.out.c0
  have t3 := HBx2.out.c3
  clear hrk hcl hb2 q0 q1 q2 q3 q4 q5 q6 HPA HBX
  go_wp2_with fail
  go_ret2
  exact ⟨rfl, HB2.out⟩

set_option maxRecDepth 100000 in
set_option maxHeartbeats 4000000 in
theorem bodyE5 (l s : Int) (f : List Nat) (e : List Int) (ee : List (List Int)) (kids : List Gm) (hX : GoodX (.mk 5 l s f e ee kids)) (hF : Fit (.mk 5 l s f e ee kids)) (w : World) (B : Nat) (cs : List Value) (h : ARep w B (.mk 5 l s f e ee kids) cs) (hB : B ≤ w.heap.size) (hN9 : numP (.mk 5 l s f e ee kids) ≤ 1000000) (st : Nat) (dg : Int) (whole : Bool) (hN0 : numP (.mk 5 l s f e ee kids) = 0) :
    Calls Tryz.prog 12 #[.agg cs.toArray, .int .i64 (st : Nat), .int .i64 dg, .bool whole] w fun en w' => BodyOut EMPTY true w en w' := by
  obtain ⟨s', a3, p3, a4, p4, a5, p5, a6, p6, hcs⟩ := arep_lit h
  simp only [Gm.kind, Gm.layout, Gm.flat, Gm.ends, Gm.endss, Gm.kids] at hcs
  obtain ⟨n3, hn3⟩ : ∃ n, n = f.length := ⟨_, rfl⟩
  obtain ⟨n4, hn4⟩ : ∃ n, n = e.length := ⟨_, rfl⟩
  obtain ⟨n5, hn5⟩ : ∃ n, n = ee.length := ⟨_, rfl⟩
  obtain ⟨n6, hn6⟩ : ∃ n, n = kids.length := ⟨_, rfl⟩
  rw [← hn3, ← hn4, ← hn5, ← hn6] at hcs
  obtain ⟨N, hN⟩ : ∃ N, N = numP (.mk 5 l s f e ee kids) := ⟨_, rfl⟩
  have hN9' : N ≤ 1000000 := by omega
  obtain ⟨W1, hW1⟩ : ∃ W1, W1 = w.alloc (.cells #[.int .i64 5, .int .i64 l, .int .i64 s', .slice a3 n3 p3, .slice a4 n4 p4, .slice a5 n5 p5, .slice a6 n6 p6] 27) := ⟨_, rfl⟩
  have hbw : Below w.heap.size w W1 := by rw [hW1]; exact (Below.refl _ _).alloc (Nat.le_refl _) _
  have hsz : W1.heap.size = w.heap.size + 1 := by rw [hW1]; simp
  have hbx : Box W1 w.heap.size 5 l s' (.slice a3 n3 p3) (.slice a4 n4 p4) (.slice a5 n5 p5) (.slice a6 n6 p6) := by unfold Box; rw [hW1]; exact heap_alloc_new w _
  have HPA : Hid (Calls Tryz.prog 23 #[.agg #[.int .i64 5, .int .i64 l, .int .i64 s', .slice a3 n3 p3, .slice a4 n4 p4, .slice a5 n5 p5, .slice a6 n6 p6]] W1 fun en w'' => PartsAns (.mk 5 l s f e ee kids) W1 en w'') := Lib.hid (by
    have := partsAns _ hX hF W1 B cs (ARep.below (hbw.mono hB) (Nat.le_refl _) _ cs h) (by omega) (by omega)
    rw [hcs] at this
    exact this)
  have hz : N = 0 := by omega
  subst hz
  rw [hcs]
  have HNN := Lib.hid hN
  have q0 := hbx.c0
  have q1 := hbx.c1
  have q2 := hbx.c2
  have q3 := hbx.c3
  have q4 := hbx.c4
  have q5 := hbx.c5
  have q6 := hbx.c6
  obtain ⟨b1, hb1⟩ : ∃ b1, b1 = w.heap.size := ⟨_, rfl⟩
  have HSZ : Hid (W1.heap.size = b1 + 1) := Lib.hid (by rw [hb1]; exact hsz)
  rw [← hb1] at q0 q1 q2 q3 q4 q5 q6 hbx
  have HBX := Lib.hid hbx
  have HBW := Lib.hid hbw
  clear hn3 hn4 hn5 hn6 hcs hbx hbw h hN hB hsz hX hF hN9 hN0
  go_enter Tryz.func12, Tryz.ntmps12
  go_wp2_with fail
  rw [← hW1, ← hb1]
  have HB1 := Lib.hid hb1
  clear hW1 hb1
  refine HPA.out.mono ?_
  rintro en w2 ⟨v, css, rfl, hrk, hcl, _, hb2⟩
  rw [← HNN.out] at hcl
  obtain ⟨a9, c9, hv⟩ := hrk.lit
  rw [hcl] at hv
  subst hv
  have HBx2 := Lib.hid (HBX.out.below hb2 (by have := HSZ.out; omega))
  have HB2 := Lib.hid (HBW.out.trans (hb2.mono (by have := HSZ.out; have := HB1.out; omega)))
  have t0 := HBx2.out.c0
  have t3 := HBx2.out.c3
  clear hrk hcl hb2 q0 q1 q2 q3 q4 q5 q6 HPA HBX
  go_wp2_with fail
  go_ret2
  exact ⟨rfl, HB2.out⟩

set_option maxRecDepth 100000 in
set_option maxHeartbeats 4000000 in
theorem bodyE6 (l s : Int) (f : List Nat) (e : List Int) (ee : List (List Int)) (kids : List Gm) (hX : GoodX (.mk 6 l s f e ee kids)) (hF : Fit (.mk 6 l s f e ee kids)) (w : World) (B : Nat) (cs : List Value) (h : ARep w B (.mk 6 l s f e ee kids) cs) (hB : B ≤ w.heap.size) (hN9 : numP (.mk 6 l s f e ee kids) ≤ 1000000) (st : Nat) (dg : Int) (whole : Bool) (hN0 : numP (.mk 6 l s f e ee kids) = 0) :
    Calls Tryz.prog 12 #[.agg cs.toArray, .int .i64 (st : Nat), .int .i64 dg, .bool whole] w fun en w' => BodyOut EMPTY true w en w' := by
  obtain ⟨s', a3, p3, a4, p4, a5, p5, a6, p6, hcs⟩ := arep_lit h
  simp only [Gm.kind, Gm.layout, Gm.flat, Gm.ends, Gm.endss, Gm.kids] at hcs
  obtain ⟨n3, hn3⟩ : ∃ n, n = f.length := ⟨_, rfl⟩
  obtain ⟨n4, hn4⟩ : ∃ n, n = e.length := ⟨_, rfl⟩
  obtain ⟨n5, hn5⟩ : ∃ n, n = ee.length := ⟨_, rfl⟩
  obtain ⟨n6, hn6⟩ : ∃ n, n = kids.length := ⟨_, rfl⟩
  rw [← hn3, ← hn4, ← hn5, ← hn6] at hcs
  obtain ⟨N, hN⟩ : ∃ N, N = numP (.mk 6 l s f e ee kids) := ⟨_, rfl⟩
  have hN9' : N ≤ 1000000 := by omega
  obtain ⟨W1, hW1⟩ : ∃ W1, W1 = w.alloc (.cells #[.int .i64 6, .int .i64 l, .int .i64 s', .slice a3 n3 p3, .slice a4 n4 p4, .slice a5 n5 p5, .slice a6 n6 p6] 27) := ⟨_, rfl⟩
  have hbw : Below w.heap.size w W1 := by rw [hW1]; exact (Below.refl _ _).alloc (Nat.le_refl _) _
  have hsz : W1.heap.size = w.heap.size + 1 := by rw [hW1]; simp
  have hbx : Box W1 w.heap.size 6 l s' (.slice a3 n3 p3) (.slice a4 n4 p4) (.slice a5 n5 p5) (.slice a6 n6 p6) := by unfold Box; rw [hW1]; exact heap_alloc_new w _
  have HPA : Hid (Calls Tryz.prog 23 #[.agg #[.int .i64 6, .int .i64 l, .int .i64 s', .slice a3 n3 p3, .slice a4 n4 p4, .slice a5 n5 p5, .slice a6 n6 p6]] W1 fun en w'' => PartsAns (.mk 6 l s f e ee kids) W1 en w'') := Lib.hid (by
    have := partsAns _ hX hF W1 B cs (ARep.below (hbw.mono hB) (Nat.le_refl _) _ cs h) (by omega) (by omega)
    rw [hcs] at this
    exact this)
  have hz : N = 0 := by omega
  subst hz
  rw [hcs]
  have HNN := Lib.hid hN
  have q0 := hbx.c0
  have q1 := hbx.c1
  have q2 := hbx.c2
  have q3 := hbx.c3
  have q4 := hbx.c4
  have q5 := hbx.c5
  have q6 := hbx.c6
  obtain ⟨b1, hb1⟩ : ∃ b1, b1 = w.heap.size := ⟨_, rfl⟩
  have HSZ : Hid (W1.heap.size = b1 + 1) := Lib.hid (by rw [hb1]; exact hsz)
  rw [← hb1] at q0 q1 q2 q3 q4 q5 q6 hbx
  have HBX := Lib.hid hbx
  have HBW := Lib.hid hbw
  clear hn3 hn4 hn5 hn6 hcs hbx hbw h hN hB hsz hX hF hN9 hN0
  go_enter Tryz.func12, Tryz.ntmps12
  go_wp2_with fail
  rw [← hW1, ← hb1]
  have HB1 := Lib.hid hb1
  clear hW1 hb1
  refine HPA.out.mono ?_
  rintro en w2 ⟨v, css, rfl, hrk, hcl, _, hb2⟩
  rw [← HNN.out] at hcl
  obtain ⟨a9, c9, hv⟩ := hrk.lit
  rw [hcl] at hv
  subst hv
  have HBx2 := Lib.hid (HBX.out.below hb2 (by have := HSZ.out; omega))
  have HB2 := Lib.hid (HBW.out.trans (hb2.mono (by have := HSZ.out; have := HB1.out; omega)))
  have t0 := HBx2.out.c0
  have t3 := HBx2.out.c3
  clear hrk hcl hb2 q0 q1 q2 q3 q4 q5 q6 HPA HBX
  go_wp2_with fail
  go_ret2
  exact ⟨rfl, HB2.out⟩

set_option maxRecDepth 100000 in
set_option maxHeartbeats 4000000 in
theorem bodyE7 (l s : Int) (f : List Nat) (e : List Int) (ee : List (List Int)) (kids : List Gm) (hX : GoodX (.mk 7 l s f e ee kids)) (hF : Fit (.mk 7 l s f e ee kids)) (w : World) (B : Nat) (cs : List Value) (h : ARep w B (.mk 7 l s f e ee kids) cs) (hB : B ≤ w.heap.size) (hN9 : numP (.mk 7 l s f e ee kids) ≤ 1000000) (st : Nat) (dg : Int) (whole : Bool) (hN0 : numP (.mk 7 l s f e ee kids) = 0) :
    Calls Tryz.prog 12 #[.agg cs.toArray, .int .i64 (st : Nat), .int .i64 dg, .bool whole] w fun en w' => BodyOut EMPTY true w en w' := by
  obtain ⟨s', a3, p3, a4, p4, a5, p5, a6, p6, hcs⟩ := arep_lit h
  simp only [Gm.kind, Gm.layout, Gm.flat, Gm.ends, Gm.endss, Gm.kids] at hcs
  obtain ⟨n3, hn3⟩ : ∃ n, n = f.length := ⟨_, rfl⟩
  obtain ⟨n4, hn4⟩ : ∃ n, n = e.length := ⟨_, rfl⟩
  obtain ⟨n5, hn5⟩ : ∃ n, n = ee.length := ⟨_, rfl⟩
  obtain ⟨n6, hn6⟩ : ∃ n, n = kids.length := ⟨_, rfl⟩
  rw [← hn3, ← hn4, ← hn5, ← hn6] at hcs
  obtain ⟨N, hN⟩ : ∃ N, N = numP (.mk 7 l s f e ee kids) := ⟨_, rfl⟩
  have hN9' : N ≤ 1000000 := by omega
  obtain ⟨W1, hW1⟩ : ∃ W1, W1 = w.alloc (.cells #[.int .i64 7, .int .i64 l, .int .i64 s', .slice a3 n3 p3, .slice a4 n4 p4, .slice a5 n5 p5, .slice a6 n6 p6] 27) := ⟨_, rfl⟩
  have hbw : Below w.heap.size w W1 := by rw [hW1]; exact (Below.refl _ _).alloc (Nat.le_refl _) _
  have hsz : W1.heap.size = w.heap.size + 1 := by rw [hW1]; simp
  have hbx : Box W1 w.heap.size 7 l s' (.slice a3 n3 p3) (.slice a4 n4 p4) (.slice a5 n5 p5) (.slice a6 n6 p6) := by unfold Box; rw [hW1]; exact heap_alloc_new w _
  have HPA : Hid (Calls Tryz.prog 23 #[.agg #[.int .i64 7, .int .i64 l, .int .i64 s', .slice a3 n3 p3, .slice a4 n4 p4, .slice a5 n5 p5, .slice a6 n6 p6]] W1 fun en w'' => PartsAns (.mk 7 l s f e ee kids) W1 en w'') := Lib.hid (by
    have := partsAns _ hX hF W1 B cs (ARep.below (hbw.mono hB) (Nat.le_refl _) _ cs h) (by omega) (by omega)
    rw [hcs] at this
    exact this)
  have hz : N = 0 := by omega
  subst hz
  rw [hcs]
  have HNN := Lib.hid hN
  have q0 := hbx.c0
  have q1 := hbx.c1
  have q2 := hbx.c2
  have q3 := hbx.c3
  have q4 := hbx.c4
  have q5 := hbx.c5
  have q6 := hbx.c6
  obtain ⟨b1, hb1⟩ : ∃ b1, b1 = w.heap.size := ⟨_, rfl⟩
  have HSZ : Hid (W1.heap.size = b1 + 1) := Lib.hid (by rw [hb1]; exact hsz)
  rw [← hb1] at q0 q1 q2 q3 q4 q5 q6 hbx
  have HBX := Lib.hid hbx
  have HBW := Lib.hid hbw
  clear hn3 hn4 hn5 hn6 hcs hbx hbw h hN hB hsz hX hF hN9 hN0
  go_enter Tryz.func12, Tryz.ntmps12
  go_wp2_with fail
  rw [← hW1, ← hb1]
  have HB1 := Lib.hid hb1
  clear hW1 hb1
  refine HPA.out.mono ?_
  rintro en w2 ⟨v, css, rfl, hrk, hcl, _, hb2⟩
  rw [← HNN.out] at hcl
  obtain ⟨a9, c9, hv⟩ := hrk.lit
  rw [hcl] at hv
  subst hv
  have HBx2 := Lib.hid (HBX.out.below hb2 (by have := HSZ.out; omega))
  have HB2 := Lib.hid (HBW.out.trans (hb2.mono (by have := HSZ.out; have := HB1.out; omega)))
  have t0 := HBx2.out.c0
  have t3 := HBx2.out.c3
  clear hrk hcl hb2 q0 q1 q2 q3 q4 q5 q6 HPA HBX
  go_wp2_with fail
  go_ret2
  exact ⟨rfl, HB2.out⟩
end Go.Proofs.YtlmilelopajdiaaGreatDoor
