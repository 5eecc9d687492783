/-
  The statement's side: WriteWKT out of body.
-/
import Derived.Test.YtlmilelopajdiaaGreatDoorUK0
import Derived.Test.YtlmilelopajdiaaGreatDoorUH2
import Derived.BigQuiet
import Derived.Lib.QuietBelow
namespace Go.Proofs.YtlmilelopajdiaaGreatDoor
open Go.RowKit Go.Sort

/-- What spec.WriteWKT answers. -/
def SpOut (t : List UInt8) (ok : Prop) (w : World) (e : Ending) (w' : World) : Prop := (ok → BodyOut t true w e w') ∧ (¬ ok → BodyOut [] false w e w')
theorem kindN_len (k : Int) : (kindN k).length ≤ 30 := by
  have := head_len k 0
  rw [nameT_eq, List.length_append, List.length_append] at this
  simp only [List.length_cons, List.length_nil] at this
  unfold kindN
  repeat' split
  all_goals simp

set_option maxRecDepth 100000 in
set_option maxHeartbeats 4000000 in
theorem specWBig (k l s : Int) (f : List Nat) (e : List Int) (ee : List (List Int)) (kids : List Gm) (hL : Lay (.mk k l s f e ee kids)) (_hk1 : 1 ≤ k) (_hk8 : k ≤ 8) (Y : Int) (hY : Y = layoutT (.mk k l s f e ee kids)) (hYv : 4 < Y) (w : World) (B : Nat) (cs : List Value) (h : ARep w B (.mk k l s f e ee kids) cs) (hB : B ≤ w.heap.size) (dg : Int):
    Calls Tryz.prog 6 #[.agg cs.toArray, .int .i64 dg] w fun en w' => BodyOut [] false w en w' := by
  obtain ⟨s', a3, p3, a4, p4, a5, p5, a6, p6, hcs⟩ := arep_lit h
  simp only [Gm.kind, Gm.layout, Gm.flat, Gm.ends, Gm.endss, Gm.kids] at hcs
  obtain ⟨n3, hn3⟩ : ∃ n, n = f.length := ⟨_, rfl⟩
  obtain ⟨n4, hn4⟩ : ∃ n, n = e.length := ⟨_, rfl⟩
  obtain ⟨n5, hn5⟩ : ∃ n, n = ee.length := ⟨_, rfl⟩
  obtain ⟨n6, hn6⟩ : ∃ n, n = kids.length := ⟨_, rfl⟩
  rw [← hn3, ← hn4, ← hn5, ← hn6] at hcs
  obtain ⟨W1, hW1⟩ : ∃ W1, W1 = w.alloc (.cells #[.int .i64 k, .int .i64 l, .int .i64 s', .slice a3 n3 p3, .slice a4 n4 p4, .slice a5 n5 p5, .slice a6 n6 p6] 27) := ⟨_, rfl⟩
  have hbw : Below w.heap.size w W1 := by rw [hW1]; exact (Below.refl _ _).alloc (Nat.le_refl _) _
  have hsz : W1.heap.size = w.heap.size + 1 := by rw [hW1]; simp
  have hbx : Box W1 w.heap.size k l s' (.slice a3 n3 p3) (.slice a4 n4 p4) (.slice a5 n5 p5) (.slice a6 n6 p6) := by unfold Box; rw [hW1]; exact heap_alloc_new w _
  have HLA : Hid (Calls Tryz.prog 11 #[.agg #[.int .i64 k, .int .i64 l, .int .i64 s', .slice a3 n3 p3, .slice a4 n4 p4, .slice a5 n5 p5, .slice a6 n6 p6]] W1 fun en w' => en = .returned (.int .i64 Y) ∧ Below W1.heap.size W1 w') := Lib.hid (by
    have := layOf _ hL W1 B cs (ARep.below (hbw.mono hB) (Nat.le_refl _) _ cs h) (by omega)
    rw [hcs, ← hY] at this
    exact this)
  rw [hcs]
  have q0 := hbx.c0
  have q1 := hbx.c1
  have q2 := hbx.c2
  have q3 := hbx.c3
  have q4 := hbx.c4
  have q5 := hbx.c5
  have q6 := hbx.c6
  obtain ⟨b1, hb1⟩ : ∃ b1, b1 = w.heap.size := ⟨_, rfl⟩
  have HSZ : Hid (W1.heap.size = b1 + 1) := Lib.hid (by rw [hb1]; exact hsz)
  rw [← hb1] at q0 q1 q2 q3 q4 q5 q6 hbx
  have HBX := Lib.hid hbx
  have HBW := Lib.hid hbw
  clear hn3 hn4 hn5 hn6 hcs hbx hbw h hB hsz hL hY
  go_enter Tryz.func6, Tryz.ntmps6
  go_wp2_with fail
  rw [← hW1, ← hb1]
  have HB1 := Lib.hid hb1
  clear hW1 hb1
  refine HLA.out.mono ?_
  rintro en w2 ⟨rfl, hb2⟩
  have HBx2 := Lib.hid (HBX.out.below hb2 (by have := HSZ.out; omega))
  have HB2 := Lib.hid (HBW.out.trans (hb2.mono (by have := HSZ.out; have := HB1.out; omega)))
  have t0 := HBx2.out.c0
  clear hb2 q0 q1 q2 q3 q4 q5 q6 HLA HBX
  go_wp2_with fail
  go_ret2
  exact ⟨rfl, HB2.out⟩

set_option maxRecDepth 100000 in
set_option maxHeartbeats 4000000 in
theorem specW0 (l s : Int) (f : List Nat) (e : List Int) (ee : List (List Int)) (kids : List Gm) (hL : Lay (.mk 7 l s f e ee kids)) (Y : Int) (hY : Y = layoutT (.mk 7 l s f e ee kids)) (hYv : Y = 0) (w : World) (B : Nat) (cs : List Value) (h : ARep w B (.mk 7 l s f e ee kids) cs) (hB : B ≤ w.heap.size) (dg : Int) (t : List UInt8) (ok : Bool) (ht : t.length ≤ 70000000000000) (X : List UInt8) (hX : X = kindN 7 ++ [32] ++ [] ++ t)
    (HBO : ∀ w', Below w.heap.size w w' → Calls Tryz.prog 12 #[.agg cs.toArray, .int .i64 (stride 0), .int .i64 dg, .bool true] w' fun en w'' => BodyOut t ok w' en w'') :
    Calls Tryz.prog 6 #[.agg cs.toArray, .int .i64 dg] w fun en w' => SpOut X (ok = true) w en w' := by
  obtain ⟨s', a3, p3, a4, p4, a5, p5, a6, p6, hcs⟩ := arep_lit h
  simp only [Gm.kind, Gm.layout, Gm.flat, Gm.ends, Gm.endss, Gm.kids] at hcs
  obtain ⟨n3, hn3⟩ : ∃ n, n = f.length := ⟨_, rfl⟩
  obtain ⟨n4, hn4⟩ : ∃ n, n = e.length := ⟨_, rfl⟩
  obtain ⟨n5, hn5⟩ : ∃ n, n = ee.length := ⟨_, rfl⟩
  obtain ⟨n6, hn6⟩ : ∃ n, n = kids.length := ⟨_, rfl⟩
  rw [← hn3, ← hn4, ← hn5, ← hn6] at hcs
  obtain ⟨W1, hW1⟩ : ∃ W1, W1 = w.alloc (.cells #[.int .i64 7, .int .i64 l, .int .i64 s', .slice a3 n3 p3, .slice a4 n4 p4, .slice a5 n5 p5, .slice a6 n6 p6] 27) := ⟨_, rfl⟩
  have hbw : Below w.heap.size w W1 := by rw [hW1]; exact (Below.refl _ _).alloc (Nat.le_refl _) _
  have hsz : W1.heap.size = w.heap.size + 1 := by rw [hW1]; simp
  have hbx : Box W1 w.heap.size 7 l s' (.slice a3 n3 p3) (.slice a4 n4 p4) (.slice a5 n5 p5) (.slice a6 n6 p6) := by unfold Box; rw [hW1]; exact heap_alloc_new w _
  have HLA : Hid (Calls Tryz.prog 11 #[.agg #[.int .i64 7, .int .i64 l, .int .i64 s', .slice a3 n3 p3, .slice a4 n4 p4, .slice a5 n5 p5, .slice a6 n6 p6]] W1 fun en w' => en = .returned (.int .i64 0) ∧ Below W1.heap.size W1 w') := Lib.hid (by
    have := layOf _ hL W1 B cs (ARep.below (hbw.mono hB) (Nat.le_refl _) _ cs h) (by omega)
    rw [hcs, ← hY, hYv] at this
    exact this)
  have HK := Lib.hid (kindName 7 (by decide) (by decide))
  rw [hcs] at HBO ⊢
  have HBD := Lib.hid HBO
  have q0 := hbx.c0
  have q1 := hbx.c1
  have q2 := hbx.c2
  have q3 := hbx.c3
  have q4 := hbx.c4
  have q5 := hbx.c5
  have q6 := hbx.c6
  obtain ⟨b1, hb1⟩ : ∃ b1, b1 = w.heap.size := ⟨_, rfl⟩
  have HSZ : Hid (W1.heap.size = b1 + 1) := Lib.hid (by rw [hb1]; exact hsz)
  rw [← hb1] at q0 q1 q2 q3 q4 q5 q6 hbx
  have HBX := Lib.hid hbx
  have HBW := Lib.hid hbw
  clear hn3 hn4 hn5 hn6 hcs hbx hbw h hB hsz hL hY hYv HBO
  go_enter Tryz.func6, Tryz.ntmps6
  go_wp2_with fail
  rw [← hW1, ← hb1]
  have HB1 := Lib.hid hb1
  clear hW1 hb1
  refine HLA.out.mono ?_
  rintro en w2 ⟨rfl, hb2⟩
  have HBx2 := Lib.hid (HBX.out.below hb2 (by have := HSZ.out; omega))
  have HB2 := Lib.hid (HBW.out.trans (hb2.mono (by have := HSZ.out; have := HB1.out; omega)))
  have t0 := HBx2.out.c0
  clear hb2 q0 q1 q2 q3 q4 q5 q6 HLA HBX
  obtain ⟨K, hK⟩ : ∃ K, K = kindN 7 := ⟨_, rfl⟩
  have hKl : K.length ≤ 30 := by rw [hK]; exact kindN_len _
  rw [← hK] at HK
  have HKK := Lib.hid hK
  have HX := Lib.hid hX
  clear hK hX
  have hA1 : ∀ w, (binOp .add 9 (.string ⟨K.toArray⟩) (.string ⟨#[32]⟩)).run Tryz.prog w = .ok (.string ⟨(K ++ [32]).toArray⟩) w := fun w => strAdd K [32] (by simp; omega) w
  have hA2 : ∀ w, (binOp .add 9 (.string ⟨(K ++ [32]).toArray⟩) (.string ⟨#[]⟩)).run Tryz.prog w = .ok (.string ⟨(K ++ [32] ++ []).toArray⟩) w := fun w => strAdd (K ++ [32]) [] (by simp; omega) w
  have hA3 : ∀ w, (binOp .add 9 (.string ⟨(K ++ [32] ++ []).toArray⟩) (.string ⟨t.toArray⟩)).run Tryz.prog w = .ok (.string ⟨(K ++ [32] ++ [] ++ t).toArray⟩) w := fun w => strAdd (K ++ [32] ++ []) t (by rw [List.length_append, List.length_append]; simp; omega) w
  have hmix : Tryz.prog.follows .mixedOrders = true := by kernel_rfl
  go_upto_region 7 with (fail)
  clear t0
  have k0 := cell_regrown HBx2.out.c0
  have k1 := cell_regrown HBx2.out.c1
  have k2 := cell_regrown HBx2.out.c2
  have k3 := cell_regrown HBx2.out.c3
  have k4 := cell_regrown HBx2.out.c4
  have k5 := cell_regrown HBx2.out.c5
  have k6 := cell_regrown HBx2.out.c6
  have HGR : Hid (∀ d os, Below w.heap.size w (grow (redrawn w2 d) os)) := Lib.hid (fun d os => HB2.out.trans ((below_regrown w2 d os).mono HB2.out.size))
  have cS : Hid (∀ d os, Calls Tryz.prog 13 #[.int .i64 0] (grow (redrawn w2 d) os) fun e w'' => e = .returned (.int .i64 0) ∧ ∃ p : Regrown, w'' = grow (redrawn w2 p.d) p.os) := Lib.hid (fun d os => Calls.regrown_of (by
    refine (specStride 0 (by decide) _).mono ?_
    rintro en w5 ⟨rfl, rfl⟩
    exact ⟨by kernel_rfl, Below.refl _ _⟩))
  have cD : Hid (∀ d os, Calls Tryz.prog 12 #[.agg #[.int .i64 7, .int .i64 l, .int .i64 s', .slice a3 n3 p3, .slice a4 n4 p4, .slice a5 n5 p5, .slice a6 n6 p6], .int .i64 0, .int .i64 dg, .bool true] (grow (redrawn w2 d) os) fun e w'' => e = .returned (.tuple #[.string ⟨t.toArray⟩, .bool ok]) ∧ ∃ p : Regrown, w'' = grow (redrawn w2 p.d) p.os) := Lib.hid (fun d os => Calls.regrown_of (by
    refine (HBD.out _ (HGR.out d os)).mono ?_
    rintro en w5 ⟨rfl, hb5⟩
    exact ⟨rfl, hb5⟩))
  clear HBD
  refine wp_region_quiet_below hmix (by kernel_rfl) ?_
  repeat (go_big_quiet_step (first | exact cS.out _ _ | exact cD.out _ _))
  refine wpQuiet_nil ?_
  intro _ hw'
  obtain ⟨⟨dq, osq⟩, hw''⟩ := hw'
  subst hw''
  have HB6 := Lib.hid (HGR.out dq osq)
  have r0 := k0 dq osq
  clear k0 k1 k2 k3 k4 k5 k6 cS cD HGR
  generalize grow (redrawn w2 dq) osq = w6 at *
  cases ok with
  | false =>
    clear hA1 hA2 hA3 HK
    go_wp2_with fail
    go_ret2
    exact ⟨fun h => absurd h (by simp), fun _ => ⟨rfl, HB6.out⟩⟩
  | true =>
    go_wp2_with fail
    refine (HK.out _).mono ?_
    rintro en w' ⟨rfl, rfl⟩
    go_wp2_with fail
    go_ret2
    exact ⟨fun _ => ⟨by rw [HX.out, ← HKK.out, ← ba_app (K ++ [32] ++ []) t, ← ba_app (K ++ [32]) [], ← ba_app K [32]]; rfl, HB6.out⟩, fun h => by simp at h⟩

set_option maxRecDepth 100000 in
set_option maxHeartbeats 4000000 in
theorem specW1 (k l s : Int) (f : List Nat) (e : List Int) (ee : List (List Int)) (kids : List Gm) (hL : Lay (.mk k l s f e ee kids)) (hk1 : 1 ≤ k) (hk8 : k ≤ 8) (Y : Int) (hY : Y = layoutT (.mk k l s f e ee kids)) (hYv : Y = 1) (w : World) (B : Nat) (cs : List Value) (h : ARep w B (.mk k l s f e ee kids) cs) (hB : B ≤ w.heap.size) (dg : Int) (t : List UInt8) (ok : Bool) (ht : t.length ≤ 70000000000000) (X : List UInt8) (hX : X = kindN k ++ [32] ++ [] ++ t)
    (HBO : ∀ w', Below w.heap.size w w' → Calls Tryz.prog 12 #[.agg cs.toArray, .int .i64 (stride 1), .int .i64 dg, .bool true] w' fun en w'' => BodyOut t ok w' en w'') :
    Calls Tryz.prog 6 #[.agg cs.toArray, .int .i64 dg] w fun en w' => SpOut X (ok = true) w en w' := by
  obtain ⟨s', a3, p3, a4, p4, a5, p5, a6, p6, hcs⟩ := arep_lit h
  simp only [Gm.kind, Gm.layout, Gm.flat, Gm.ends, Gm.endss, Gm.kids] at hcs
  obtain ⟨n3, hn3⟩ : ∃ n, n = f.length := ⟨_, rfl⟩
  obtain ⟨n4, hn4⟩ : ∃ n, n = e.length := ⟨_, rfl⟩
  obtain ⟨n5, hn5⟩ : ∃ n, n = ee.length := ⟨_, rfl⟩
  obtain ⟨n6, hn6⟩ : ∃ n, n = kids.length := ⟨_, rfl⟩
  rw [← hn3, ← hn4, ← hn5, ← hn6] at hcs
  obtain ⟨W1, hW1⟩ : ∃ W1, W1 = w.alloc (.cells #[.int .i64 k, .int .i64 l, .int .i64 s', .slice a3 n3 p3, .slice a4 n4 p4, .slice a5 n5 p5, .slice a6 n6 p6] 27) := ⟨_, rfl⟩
  have hbw : Below w.heap.size w W1 := by rw [hW1]; exact (Below.refl _ _).alloc (Nat.le_refl _) _
  have hsz : W1.heap.size = w.heap.size + 1 := by rw [hW1]; simp
  have hbx : Box W1 w.heap.size k l s' (.slice a3 n3 p3) (.slice a4 n4 p4) (.slice a5 n5 p5) (.slice a6 n6 p6) := by unfold Box; rw [hW1]; exact heap_alloc_new w _
  have HLA : Hid (Calls Tryz.prog 11 #[.agg #[.int .i64 k, .int .i64 l, .int .i64 s', .slice a3 n3 p3, .slice a4 n4 p4, .slice a5 n5 p5, .slice a6 n6 p6]] W1 fun en w' => en = .returned (.int .i64 1) ∧ Below W1.heap.size W1 w') := Lib.hid (by
    have := layOf _ hL W1 B cs (ARep.below (hbw.mono hB) (Nat.le_refl _) _ cs h) (by omega)
    rw [hcs, ← hY, hYv] at this
    exact this)
  have HK := Lib.hid (kindName k hk1 hk8)
  rw [hcs] at HBO ⊢
  have HBD := Lib.hid HBO
  have q0 := hbx.c0
  have q1 := hbx.c1
  have q2 := hbx.c2
  have q3 := hbx.c3
  have q4 := hbx.c4
  have q5 := hbx.c5
  have q6 := hbx.c6
  obtain ⟨b1, hb1⟩ : ∃ b1, b1 = w.heap.size := ⟨_, rfl⟩
  have HSZ : Hid (W1.heap.size = b1 + 1) := Lib.hid (by rw [hb1]; exact hsz)
  rw [← hb1] at q0 q1 q2 q3 q4 q5 q6 hbx
  have HBX := Lib.hid hbx
  have HBW := Lib.hid hbw
  clear hn3 hn4 hn5 hn6 hcs hbx hbw h hB hsz hL hY hYv HBO hk1 hk8
  go_enter Tryz.func6, Tryz.ntmps6
  go_wp2_with fail
  rw [← hW1, ← hb1]
  have HB1 := Lib.hid hb1
  clear hW1 hb1
  refine HLA.out.mono ?_
  rintro en w2 ⟨rfl, hb2⟩
  have HBx2 := Lib.hid (HBX.out.below hb2 (by have := HSZ.out; omega))
  have HB2 := Lib.hid (HBW.out.trans (hb2.mono (by have := HSZ.out; have := HB1.out; omega)))
  have t0 := HBx2.out.c0
  clear hb2 q0 q1 q2 q3 q4 q5 q6 HLA HBX
  obtain ⟨K, hK⟩ : ∃ K, K = kindN k := ⟨_, rfl⟩
  have hKl : K.length ≤ 30 := by rw [hK]; exact kindN_len _
  rw [← hK] at HK
  have HKK := Lib.hid hK
  have HX := Lib.hid hX
  clear hK hX
  have hA1 : ∀ w, (binOp .add 9 (.string ⟨K.toArray⟩) (.string ⟨#[32]⟩)).run Tryz.prog w = .ok (.string ⟨(K ++ [32]).toArray⟩) w := fun w => strAdd K [32] (by simp; omega) w
  have hA2 : ∀ w, (binOp .add 9 (.string ⟨(K ++ [32]).toArray⟩) (.string ⟨#[]⟩)).run Tryz.prog w = .ok (.string ⟨(K ++ [32] ++ []).toArray⟩) w := fun w => strAdd (K ++ [32]) [] (by simp; omega) w
  have hA3 : ∀ w, (binOp .add 9 (.string ⟨(K ++ [32] ++ []).toArray⟩) (.string ⟨t.toArray⟩)).run Tryz.prog w = .ok (.string ⟨(K ++ [32] ++ [] ++ t).toArray⟩) w := fun w => strAdd (K ++ [32] ++ []) t (by rw [List.length_append, List.length_append]; simp; omega) w
  have hmix : Tryz.prog.follows .mixedOrders = true := by kernel_rfl
  go_upto_region 7 with (fail)
  clear t0
  have k0 := cell_regrown HBx2.out.c0
  have k1 := cell_regrown HBx2.out.c1
  have k2 := cell_regrown HBx2.out.c2
  have k3 := cell_regrown HBx2.out.c3
  have k4 := cell_regrown HBx2.out.c4
  have k5 := cell_regrown HBx2.out.c5
  have k6 := cell_regrown HBx2.out.c6
  have HGR : Hid (∀ d os, Below w.heap.size w (grow (redrawn w2 d) os)) := Lib.hid (fun d os => HB2.out.trans ((below_regrown w2 d os).mono HB2.out.size))
  have cS : Hid (∀ d os, Calls Tryz.prog 13 #[.int .i64 1] (grow (redrawn w2 d) os) fun e w'' => e = .returned (.int .i64 2) ∧ ∃ p : Regrown, w'' = grow (redrawn w2 p.d) p.os) := Lib.hid (fun d os => Calls.regrown_of (by
    refine (specStride 1 (by decide) _).mono ?_
    rintro en w5 ⟨rfl, rfl⟩
    exact ⟨by kernel_rfl, Below.refl _ _⟩))
  have cD : Hid (∀ d os, Calls Tryz.prog 12 #[.agg #[.int .i64 k, .int .i64 l, .int .i64 s', .slice a3 n3 p3, .slice a4 n4 p4, .slice a5 n5 p5, .slice a6 n6 p6], .int .i64 2, .int .i64 dg, .bool true] (grow (redrawn w2 d) os) fun e w'' => e = .returned (.tuple #[.string ⟨t.toArray⟩, .bool ok]) ∧ ∃ p : Regrown, w'' = grow (redrawn w2 p.d) p.os) := Lib.hid (fun d os => Calls.regrown_of (by
    refine (HBD.out _ (HGR.out d os)).mono ?_
    rintro en w5 ⟨rfl, hb5⟩
    exact ⟨rfl, hb5⟩))
  clear HBD
  refine wp_region_quiet_below hmix (by kernel_rfl) ?_
  repeat (go_big_quiet_step (first | exact cS.out _ _ | exact cD.out _ _))
  refine wpQuiet_nil ?_
  intro _ hw'
  obtain ⟨⟨dq, osq⟩, hw''⟩ := hw'
  subst hw''
  have HB6 := Lib.hid (HGR.out dq osq)
  have r0 := k0 dq osq
  clear k0 k1 k2 k3 k4 k5 k6 cS cD HGR
  generalize grow (redrawn w2 dq) osq = w6 at *
  cases ok with
  | false =>
    clear hA1 hA2 hA3 HK
    go_wp2_with fail
    go_ret2
    exact ⟨fun h => absurd h (by simp), fun _ => ⟨rfl, HB6.out⟩⟩
  | true =>
    go_wp2_with fail
    refine (HK.out _).mono ?_
    rintro en w' ⟨rfl, rfl⟩
    go_wp2_with fail
    go_ret2
    exact ⟨fun _ => ⟨by rw [HX.out, ← HKK.out, ← ba_app (K ++ [32] ++ []) t, ← ba_app (K ++ [32]) [], ← ba_app K [32]]; rfl, HB6.out⟩, fun h => by simp at h⟩

set_option maxRecDepth 100000 in
set_option maxHeartbeats 4000000 in
theorem specW2 (k l s : Int) (f : List Nat) (e : List Int) (ee : List (List Int)) (kids : List Gm) (hL : Lay (.mk k l s f e ee kids)) (hk1 : 1 ≤ k) (hk8 : k ≤ 8) (Y : Int) (hY : Y = layoutT (.mk k l s f e ee kids)) (hYv : Y = 2) (w : World) (B : Nat) (cs : List Value) (h : ARep w B (.mk k l s f e ee kids) cs) (hB : B ≤ w.heap.size) (dg : Int) (t : List UInt8) (ok : Bool) (ht : t.length ≤ 70000000000000) (X : List UInt8) (hX : X = kindN k ++ [32] ++ [90, 32] ++ t)
    (HBO : ∀ w', Below w.heap.size w w' → Calls Tryz.prog 12 #[.agg cs.toArray, .int .i64 (stride 2), .int .i64 dg, .bool true] w' fun en w'' => BodyOut t ok w' en w'') :
    Calls Tryz.prog 6 #[.agg cs.toArray, .int .i64 dg] w fun en w' => SpOut X (ok = true) w en w' := by
  obtain ⟨s', a3, p3, a4, p4, a5, p5, a6, p6, hcs⟩ := arep_lit h
  simp only [Gm.kind, Gm.layout, Gm.flat, Gm.ends, Gm.endss, Gm.kids] at hcs
  obtain ⟨n3, hn3⟩ : ∃ n, n = f.length := ⟨_, rfl⟩
  obtain ⟨n4, hn4⟩ : ∃ n, n = e.length := ⟨_, rfl⟩
  obtain ⟨n5, hn5⟩ : ∃ n, n = ee.length := ⟨_, rfl⟩
  obtain ⟨n6, hn6⟩ : ∃ n, n = kids.length := ⟨_, rfl⟩
  rw [← hn3, ← hn4, ← hn5, ← hn6] at hcs
  obtain ⟨W1, hW1⟩ : ∃ W1, W1 = w.alloc (.cells #[.int .i64 k, .int .i64 l, .int .i64 s', .slice a3 n3 p3, .slice a4 n4 p4, .slice a5 n5 p5, .slice a6 n6 p6] 27) := ⟨_, rfl⟩
  have hbw : Below w.heap.size w W1 := by rw [hW1]; exact (Below.refl _ _).alloc (Nat.le_refl _) _
  have hsz : W1.heap.size = w.heap.size + 1 := by rw [hW1]; simp
  have hbx : Box W1 w.heap.size k l s' (.slice a3 n3 p3) (.slice a4 n4 p4) (.slice a5 n5 p5) (.slice a6 n6 p6) := by unfold Box; rw [hW1]; exact heap_alloc_new w _
  have HLA : Hid (Calls Tryz.prog 11 #[.agg #[.int .i64 k, .int .i64 l, .int .i64 s', .slice a3 n3 p3, .slice a4 n4 p4, .slice a5 n5 p5, .slice a6 n6 p6]] W1 fun en w' => en = .returned (.int .i64 2) ∧ Below W1.heap.size W1 w') := Lib.hid (by
    have := layOf _ hL W1 B cs (ARep.below (hbw.mono hB) (Nat.le_refl _) _ cs h) (by omega)
    rw [hcs, ← hY, hYv] at this
    exact this)
  have HK := Lib.hid (kindName k hk1 hk8)
  rw [hcs] at HBO ⊢
  have HBD := Lib.hid HBO
  have q0 := hbx.c0
  have q1 := hbx.c1
  have q2 := hbx.c2
  have q3 := hbx.c3
  have q4 := hbx.c4
  have q5 := hbx.c5
  have q6 := hbx.c6
  obtain ⟨b1, hb1⟩ : ∃ b1, b1 = w.heap.size := ⟨_, rfl⟩
  have HSZ : Hid (W1.heap.size = b1 + 1) := Lib.hid (by rw [hb1]; exact hsz)
  rw [← hb1] at q0 q1 q2 q3 q4 q5 q6 hbx
  have HBX := Lib.hid hbx
  have HBW := Lib.hid hbw
  clear hn3 hn4 hn5 hn6 hcs hbx hbw h hB hsz hL hY hYv HBO hk1 hk8
  go_enter Tryz.func6, Tryz.ntmps6
  go_wp2_with fail
  rw [← hW1, ← hb1]
  have HB1 := Lib.hid hb1
  clear hW1 hb1
  refine HLA.out.mono ?_
  rintro en w2 ⟨rfl, hb2⟩
  have HBx2 := Lib.hid (HBX.out.below hb2 (by have := HSZ.out; omega))
  have HB2 := Lib.hid (HBW.out.trans (hb2.mono (by have := HSZ.out; have := HB1.out; omega)))
  have t0 := HBx2.out.c0
  clear hb2 q0 q1 q2 q3 q4 q5 q6 HLA HBX
  obtain ⟨K, hK⟩ : ∃ K, K = kindN k := ⟨_, rfl⟩
  have hKl : K.length ≤ 30 := by rw [hK]; exact kindN_len _
  rw [← hK] at HK
  have HKK := Lib.hid hK
  have HX := Lib.hid hX
  clear hK hX
  have hA1 : ∀ w, (binOp .add 9 (.string ⟨K.toArray⟩) (.string ⟨#[32]⟩)).run Tryz.prog w = .ok (.string ⟨(K ++ [32]).toArray⟩) w := fun w => strAdd K [32] (by simp; omega) w
  have hA2 : ∀ w, (binOp .add 9 (.string ⟨(K ++ [32]).toArray⟩) (.string ⟨#[90, 32]⟩)).run Tryz.prog w = .ok (.string ⟨(K ++ [32] ++ [90, 32]).toArray⟩) w := fun w => strAdd (K ++ [32]) [90, 32] (by simp; omega) w
  have hA3 : ∀ w, (binOp .add 9 (.string ⟨(K ++ [32] ++ [90, 32]).toArray⟩) (.string ⟨t.toArray⟩)).run Tryz.prog w = .ok (.string ⟨(K ++ [32] ++ [90, 32] ++ t).toArray⟩) w := fun w => strAdd (K ++ [32] ++ [90, 32]) t (by rw [List.length_append, List.length_append]; simp; omega) w
  have hmix : Tryz.prog.follows .mixedOrders = true := by kernel_rfl
  obtain ⟨W3, hW3⟩ : ∃ W3, W3 = w2.alloc (.cells #[.string ⟨#[90, 32]⟩, .string ⟨#[77, 32]⟩, .string ⟨#[90, 77, 32]⟩] 9) := ⟨_, rfl⟩
  have hb3 : Below w2.heap.size w2 W3 := by rw [hW3]; exact (Below.refl _ _).alloc (Nat.le_refl _) _
  have HB3 := Lib.hid (HB2.out.trans (hb3.mono HB2.out.size))
  have HBx3 := Lib.hid (HBx2.out.below hb3 (lt_of_block HBx2.out))
  clear hb3
  go_upto_region 7 with (fail)
  rw [← hW3]
  clear hW3 t0
  have k0 := cell_regrown HBx3.out.c0
  have k1 := cell_regrown HBx3.out.c1
  have k2 := cell_regrown HBx3.out.c2
  have k3 := cell_regrown HBx3.out.c3
  have k4 := cell_regrown HBx3.out.c4
  have k5 := cell_regrown HBx3.out.c5
  have k6 := cell_regrown HBx3.out.c6
  have HGR : Hid (∀ d os, Below w.heap.size w (grow (redrawn W3 d) os)) := Lib.hid (fun d os => HB3.out.trans ((below_regrown W3 d os).mono HB3.out.size))
  have cS : Hid (∀ d os, Calls Tryz.prog 13 #[.int .i64 2] (grow (redrawn W3 d) os) fun e w'' => e = .returned (.int .i64 3) ∧ ∃ p : Regrown, w'' = grow (redrawn W3 p.d) p.os) := Lib.hid (fun d os => Calls.regrown_of (by
    refine (specStride 2 (by decide) _).mono ?_
    rintro en w5 ⟨rfl, rfl⟩
    exact ⟨by kernel_rfl, Below.refl _ _⟩))
  have cD : Hid (∀ d os, Calls Tryz.prog 12 #[.agg #[.int .i64 k, .int .i64 l, .int .i64 s', .slice a3 n3 p3, .slice a4 n4 p4, .slice a5 n5 p5, .slice a6 n6 p6], .int .i64 3, .int .i64 dg, .bool true] (grow (redrawn W3 d) os) fun e w'' => e = .returned (.tuple #[.string ⟨t.toArray⟩, .bool ok]) ∧ ∃ p : Regrown, w'' = grow (redrawn W3 p.d) p.os) := Lib.hid (fun d os => Calls.regrown_of (by
    refine (HBD.out _ (HGR.out d os)).mono ?_
    rintro en w5 ⟨rfl, hb5⟩
    exact ⟨rfl, hb5⟩))
  clear HBD
  refine wp_region_quiet_below hmix (by kernel_rfl) ?_
  repeat (go_big_quiet_step (first | exact cS.out _ _ | exact cD.out _ _))
  refine wpQuiet_nil ?_
  intro _ hw'
  obtain ⟨⟨dq, osq⟩, hw''⟩ := hw'
  subst hw''
  have HB6 := Lib.hid (HGR.out dq osq)
  have r0 := k0 dq osq
  clear k0 k1 k2 k3 k4 k5 k6 cS cD HGR
  generalize grow (redrawn W3 dq) osq = w6 at *
  cases ok with
  | false =>
    clear hA1 hA2 hA3 HK
    go_wp2_with fail
    go_ret2
    exact ⟨fun h => absurd h (by simp), fun _ => ⟨rfl, HB6.out⟩⟩
  | true =>
    go_wp2_with fail
    refine (HK.out _).mono ?_
    rintro en w' ⟨rfl, rfl⟩
    go_wp2_with fail
    go_ret2
    exact ⟨fun _ => ⟨by rw [HX.out, ← HKK.out, ← ba_app (K ++ [32] ++ [90, 32]) t, ← ba_app (K ++ [32]) [90, 32], ← ba_app K [32]]; rfl, HB6.out⟩, fun h => by simp at h⟩

set_option maxRecDepth 100000 in
set_option maxHeartbeats 4000000 in
theorem specW3 (k l s : Int) (f : List Nat) (e : List Int) (ee : List (List Int)) (kids : List Gm) (hL : Lay (.mk k l s f e ee kids)) (hk1 : 1 ≤ k) (hk8 : k ≤ 8) (Y : Int) (hY : Y = layoutT (.mk k l s f e ee kids)) (hYv : Y = 3) (w : World) (B : Nat) (cs : List Value) (h : ARep w B (.mk k l s f e ee kids) cs) (hB : B ≤ w.heap.size) (dg : Int) (t : List UInt8) (ok : Bool) (ht : t.length ≤ 70000000000000) (X : List UInt8) (hX : X = kindN k ++ [32] ++ [77, 32] ++ t)
    (HBO : ∀ w', Below w.heap.size w w' → Calls Tryz.prog 12 #[.agg cs.toArray, .int .i64 (stride 3), .int .i64 dg, .bool true] w' fun en w'' => BodyOut t ok w' en w'') :
    Calls Tryz.prog 6 #[.agg cs.toArray, .int .i64 dg] w fun en w' => SpOut X (ok = true) w en w' := by
  obtain ⟨s', a3, p3, a4, p4, a5, p5, a6, p6, hcs⟩ := arep_lit h
  simp only [Gm.kind, Gm.layout, Gm.flat, Gm.ends, Gm.endss, Gm.kids] at hcs
  obtain ⟨n3, hn3⟩ : ∃ n, n = f.length := ⟨_, rfl⟩
  obtain ⟨n4, hn4⟩ : ∃ n, n = e.length := ⟨_, rfl⟩
  obtain ⟨n5, hn5⟩ : ∃ n, n = ee.length := ⟨_, rfl⟩
  obtain ⟨n6, hn6⟩ : ∃ n, n = kids.length := ⟨_, rfl⟩
  rw [← hn3, ← hn4, ← hn5, ← hn6] at hcs
  obtain ⟨W1, hW1⟩ : ∃ W1, W1 = w.alloc (.cells #[.int .i64 k, .int .i64 l, .int .i64 s', .slice a3 n3 p3, .slice a4 n4 p4, .slice a5 n5 p5, .slice a6 n6 p6] 27) := ⟨_, rfl⟩
  have hbw : Below w.heap.size w W1 := by rw [hW1]; exact (Below.refl _ _).alloc (Nat.le_refl _) _
  have hsz : W1.heap.size = w.heap.size + 1 := by rw [hW1]; simp
  have hbx : Box W1 w.heap.size k l s' (.slice a3 n3 p3) (.slice a4 n4 p4) (.slice a5 n5 p5) (.slice a6 n6 p6) := by unfold Box; rw [hW1]; exact heap_alloc_new w _
  have HLA : Hid (Calls Tryz.prog 11 #[.agg #[.int .i64 k, .int .i64 l, .int .i64 s', .slice a3 n3 p3, .slice a4 n4 p4, .slice a5 n5 p5, .slice a6 n6 p6]] W1 fun en w' => en = .returned (.int .i64 3) ∧ Below W1.heap.size W1 w') := Lib.hid (by
    have := layOf _ hL W1 B cs (ARep.below (hbw.mono hB) (Nat.le_refl _) _ cs h) (by omega)
    rw [hcs, ← hY, hYv] at this
    exact this)
  have HK := Lib.hid (kindName k hk1 hk8)
  rw [hcs] at HBO ⊢
  have HBD := Lib.hid HBO
  have q0 := hbx.c0
  have q1 := hbx.c1
  have q2 := hbx.c2
  have q3 := hbx.c3
  have q4 := hbx.c4
  have q5 := hbx.c5
  have q6 := hbx.c6
  obtain ⟨b1, hb1⟩ : ∃ b1, b1 = w.heap.size := ⟨_, rfl⟩
  have HSZ : Hid (W1.heap.size = b1 + 1) := Lib.hid (by rw [hb1]; exact hsz)
  rw [← hb1] at q0 q1 q2 q3 q4 q5 q6 hbx
  have HBX := Lib.hid hbx
  have HBW := Lib.hid hbw
  clear hn3 hn4 hn5 hn6 hcs hbx hbw h hB hsz hL hY hYv HBO hk1 hk8
  go_enter Tryz.func6, Tryz.ntmps6
  go_wp2_with fail
  rw [← hW1, ← hb1]
  have HB1 := Lib.hid hb1
  clear hW1 hb1
  refine HLA.out.mono ?_
  rintro en w2 ⟨rfl, hb2⟩
  have HBx2 := Lib.hid (HBX.out.below hb2 (by have := HSZ.out; omega))
  have HB2 := Lib.hid (HBW.out.trans (hb2.mono (by have := HSZ.out; have := HB1.out; omega)))
  have t0 := HBx2.out.c0
  clear hb2 q0 q1 q2 q3 q4 q5 q6 HLA HBX
  obtain ⟨K, hK⟩ : ∃ K, K = kindN k := ⟨_, rfl⟩
  have hKl : K.length ≤ 30 := by rw [hK]; exact kindN_len _
  rw [← hK] at HK
  have HKK := Lib.hid hK
  have HX := Lib.hid hX
  clear hK hX
  have hA1 : ∀ w, (binOp .add 9 (.string ⟨K.toArray⟩) (.string ⟨#[32]⟩)).run Tryz.prog w = .ok (.string ⟨(K ++ [32]).toArray⟩) w := fun w => strAdd K [32] (by simp; omega) w
  have hA2 : ∀ w, (binOp .add 9 (.string ⟨(K ++ [32]).toArray⟩) (.string ⟨#[77, 32]⟩)).run Tryz.prog w = .ok (.string ⟨(K ++ [32] ++ [77, 32]).toArray⟩) w := fun w => strAdd (K ++ [32]) [77, 32] (by simp; omega) w
  have hA3 : ∀ w, (binOp .add 9 (.string ⟨(K ++ [32] ++ [77, 32]).toArray⟩) (.string ⟨t.toArray⟩)).run Tryz.prog w = .ok (.string ⟨(K ++ [32] ++ [77, 32] ++ t).toArray⟩) w := fun w => strAdd (K ++ [32] ++ [77, 32]) t (by rw [List.length_append, List.length_append]; simp; omega) w
  have hmix : Tryz.prog.follows .mixedOrders = true := by kernel_rfl
  obtain ⟨W3, hW3⟩ : ∃ W3, W3 = w2.alloc (.cells #[.string ⟨#[90, 32]⟩, .string ⟨#[77, 32]⟩, .string ⟨#[90, 77, 32]⟩] 9) := ⟨_, rfl⟩
  have hb3 : Below w2.heap.size w2 W3 := by rw [hW3]; exact (Below.refl _ _).alloc (Nat.le_refl _) _
  have HB3 := Lib.hid (HB2.out.trans (hb3.mono HB2.out.size))
  have HBx3 := Lib.hid (HBx2.out.below hb3 (lt_of_block HBx2.out))
  clear hb3
  go_upto_region 7 with (fail)
  rw [← hW3]
  clear hW3 t0
  have k0 := cell_regrown HBx3.out.c0
  have k1 := cell_regrown HBx3.out.c1
  have k2 := cell_regrown HBx3.out.c2
  have k3 := cell_regrown HBx3.out.c3
  have k4 := cell_regrown HBx3.out.c4
  have k5 := cell_regrown HBx3.out.c5
  have k6 := cell_regrown HBx3.out.c6
  have HGR : Hid (∀ d os, Below w.heap.size w (grow (redrawn W3 d) os)) := Lib.hid (fun d os => HB3.out.trans ((below_regrown W3 d os).mono HB3.out.size))
  have cS : Hid (∀ d os, Calls Tryz.prog 13 #[.int .i64 3] (grow (redrawn W3 d) os) fun e w'' => e = .returned (.int .i64 3) ∧ ∃ p : Regrown, w'' = grow (redrawn W3 p.d) p.os) := Lib.hid (fun d os => Calls.regrown_of (by
    refine (specStride 3 (by decide) _).mono ?_
    rintro en w5 ⟨rfl, rfl⟩
    exact ⟨by kernel_rfl, Below.refl _ _⟩))
  have cD : Hid (∀ d os, Calls Tryz.prog 12 #[.agg #[.int .i64 k, .int .i64 l, .int .i64 s', .slice a3 n3 p3, .slice a4 n4 p4, .slice a5 n5 p5, .slice a6 n6 p6], .int .i64 3, .int .i64 dg, .bool true] (grow (redrawn W3 d) os) fun e w'' => e = .returned (.tuple #[.string ⟨t.toArray⟩, .bool ok]) ∧ ∃ p : Regrown, w'' = grow (redrawn W3 p.d) p.os) := Lib.hid (fun d os => Calls.regrown_of (by
    refine (HBD.out _ (HGR.out d os)).mono ?_
    rintro en w5 ⟨rfl, hb5⟩
    exact ⟨rfl, hb5⟩))
  clear HBD
  refine wp_region_quiet_below hmix (by kernel_rfl) ?_
  repeat (go_big_quiet_step (first | exact cS.out _ _ | exact cD.out _ _))
  refine wpQuiet_nil ?_
  intro _ hw'
  obtain ⟨⟨dq, osq⟩, hw''⟩ := hw'
  subst hw''
  have HB6 := Lib.hid (HGR.out dq osq)
  have r0 := k0 dq osq
  clear k0 k1 k2 k3 k4 k5 k6 cS cD HGR
  generalize grow (redrawn W3 dq) osq = w6 at *
  cases ok with
  | false =>
    clear hA1 hA2 hA3 HK
    go_wp2_with fail
    go_ret2
    exact ⟨fun h => absurd h (by simp), fun _ => ⟨rfl, HB6.out⟩⟩
  | true =>
    go_wp2_with fail
    refine (HK.out _).mono ?_
    rintro en w' ⟨rfl, rfl⟩
    go_wp2_with fail
    go_ret2
    exact ⟨fun _ => ⟨by rw [HX.out, ← HKK.out, ← ba_app (K ++ [32] ++ [77, 32]) t, ← ba_app (K ++ [32]) [77, 32], ← ba_app K [32]]; rfl, HB6.out⟩, fun h => by simp at h⟩

set_option maxRecDepth 100000 in
set_option maxHeartbeats 4000000 in
theorem specW4 (k l s : Int) (f : List Nat) (e : List Int) (ee : List (List Int)) (kids : List Gm) (hL : Lay (.mk k l s f e ee kids)) (hk1 : 1 ≤ k) (hk8 : k ≤ 8) (Y : Int) (hY : Y = layoutT (.mk k l s f e ee kids)) (hYv : Y = 4) (w : World) (B : Nat) (cs : List Value) (h : ARep w B (.mk k l s f e ee kids) cs) (hB : B ≤ w.heap.size) (dg : Int) (t : List UInt8) (ok : Bool) (ht : t.length ≤ 70000000000000) (X : List UInt8) (hX : X = kindN k ++ [32] ++ [90, 77, 32] ++ t)
    (HBO : ∀ w', Below w.heap.size w w' → Calls Tryz.prog 12 #[.agg cs.toArray, .int .i64 (stride 4), .int .i64 dg, .bool true] w' fun en w'' => BodyOut t ok w' en w'') :
    Calls Tryz.prog 6 #[.agg cs.toArray, .int .i64 dg] w fun en w' => SpOut X (ok = true) w en w' := by
  obtain ⟨s', a3, p3, a4, p4, a5, p5, a6, p6, hcs⟩ := arep_lit h
  simp only [Gm.kind, Gm.layout, Gm.flat, Gm.ends, Gm.endss, Gm.kids] at hcs
  obtain ⟨n3, hn3⟩ : ∃ n, n = f.length := ⟨_, rfl⟩
  obtain ⟨n4, hn4⟩ : ∃ n, n = e.length := ⟨_, rfl⟩
  obtain ⟨n5, hn5⟩ : ∃ n, n = ee.length := ⟨_, rfl⟩
  obtain ⟨n6, hn6⟩ : ∃ n, n = kids.length := ⟨_, rfl⟩
  rw [← hn3, ← hn4, ← hn5, ← hn6] at hcs
  obtain ⟨W1, hW1⟩ : ∃ W1, W1 = w.alloc (.cells #[.int .i64 k, .int .i64 l, .int .i64 s', .slice a3 n3 p3, .slice a4 n4 p4, .slice a5 n5 p5, .slice a6 n6 p6] 27) := ⟨_, rfl⟩
  have hbw : Below w.heap.size w W1 := by rw [hW1]; exact (Below.refl _ _).alloc (Nat.le_refl _) _
  have hsz : W1.heap.size = w.heap.size + 1 := by rw [hW1]; simp
  have hbx : Box W1 w.heap.size k l s' (.slice a3 n3 p3) (.slice a4 n4 p4) (.slice a5 n5 p5) (.slice a6 n6 p6) := by unfold Box; rw [hW1]; exact heap_alloc_new w _
  have HLA : Hid (Calls Tryz.prog 11 #[.agg #[.int .i64 k, .int .i64 l, .int .i64 s', .slice a3 n3 p3, .slice a4 n4 p4, .slice a5 n5 p5, .slice a6 n6 p6]] W1 fun en w' => en = .returned (.int .i64 4) ∧ Below W1.heap.size W1 w') := Lib.hid (by
    have := layOf _ hL W1 B cs (ARep.below (hbw.mono hB) (Nat.le_refl _) _ cs h) (by omega)
    rw [hcs, ← hY, hYv] at this
    exact this)
  have HK := Lib.hid (kindName k hk1 hk8)
  rw [hcs] at HBO ⊢
  have HBD := Lib.hid HBO
  have q0 := hbx.c0
  have q1 := hbx.c1
  have q2 := hbx.c2
  have q3 := hbx.c3
  have q4 := hbx.c4
  have q5 := hbx.c5
  have q6 := hbx.c6
  obtain ⟨b1, hb1⟩ : ∃ b1, b1 = w.heap.size := ⟨_, rfl⟩
  have HSZ : Hid (W1.heap.size = b1 + 1) := Lib.hid (by rw [hb1]; exact hsz)
  rw [← hb1] at q0 q1 q2 q3 q4 q5 q6 hbx
  have HBX := Lib.hid hbx
  have HBW := Lib.hid hbw
  clear hn3 hn4 hn5 hn6 hcs hbx hbw h hB hsz hL hY hYv HBO hk1 hk8
  go_enter Tryz.func6, Tryz.ntmps6
  go_wp2_with fail
  rw [← hW1, ← hb1]
  have HB1 := Lib.hid hb1
  clear hW1 hb1
  refine HLA.out.mono ?_
  rintro en w2 ⟨rfl, hb2⟩
  have HBx2 := Lib.hid (HBX.out.below hb2 (by have := HSZ.out; omega))
  have HB2 := Lib.hid (HBW.out.trans (hb2.mono (by have := HSZ.out; have := HB1.out; omega)))
  have t0 := HBx2.out.c0
  clear hb2 q0 q1 q2 q3 q4 q5 q6 HLA HBX
  obtain ⟨K, hK⟩ : ∃ K, K = kindN k := ⟨_, rfl⟩
  have hKl : K.length ≤ 30 := by rw [hK]; exact kindN_len _
  rw [← hK] at HK
  have HKK := Lib.hid hK
  have HX := Lib.hid hX
  clear hK hX
  have hA1 : ∀ w, (binOp .add 9 (.string ⟨K.toArray⟩) (.string ⟨#[32]⟩)).run Tryz.prog w = .ok (.string ⟨(K ++ [32]).toArray⟩) w := fun w => strAdd K [32] (by simp; omega) w
  have hA2 : ∀ w, (binOp .add 9 (.string ⟨(K ++ [32]).toArray⟩) (.string ⟨#[90, 77, 32]⟩)).run Tryz.prog w = .ok (.string ⟨(K ++ [32] ++ [90, 77, 32]).toArray⟩) w := fun w => strAdd (K ++ [32]) [90, 77, 32] (by simp; omega) w
  have hA3 : ∀ w, (binOp .add 9 (.string ⟨(K ++ [32] ++ [90, 77, 32]).toArray⟩) (.string ⟨t.toArray⟩)).run Tryz.prog w = .ok (.string ⟨(K ++ [32] ++ [90, 77, 32] ++ t).toArray⟩) w := fun w => strAdd (K ++ [32] ++ [90, 77, 32]) t (by rw [List.length_append, List.length_append]; simp; omega) w
  have hmix : Tryz.prog.follows .mixedOrders = true := by kernel_rfl
  obtain ⟨W3, hW3⟩ : ∃ W3, W3 = w2.alloc (.cells #[.string ⟨#[90, 32]⟩, .string ⟨#[77, 32]⟩, .string ⟨#[90, 77, 32]⟩] 9) := ⟨_, rfl⟩
  have hb3 : Below w2.heap.size w2 W3 := by rw [hW3]; exact (Below.refl _ _).alloc (Nat.le_refl _) _
  have HB3 := Lib.hid (HB2.out.trans (hb3.mono HB2.out.size))
  have HBx3 := Lib.hid (HBx2.out.below hb3 (lt_of_block HBx2.out))
  clear hb3
  go_upto_region 7 with (fail)
  rw [← hW3]
  clear hW3 t0
  have k0 := cell_regrown HBx3.out.c0
  have k1 := cell_regrown HBx3.out.c1
  have k2 := cell_regrown HBx3.out.c2
  have k3 := cell_regrown HBx3.out.c3
  have k4 := cell_regrown HBx3.out.c4
  have k5 := cell_regrown HBx3.out.c5
  have k6 := cell_regrown HBx3.out.c6
  have HGR : Hid (∀ d os, Below w.heap.size w (grow (redrawn W3 d) os)) := Lib.hid (fun d os => HB3.out.trans ((below_regrown W3 d os).mono HB3.out.size))
  have cS : Hid (∀ d os, Calls Tryz.prog 13 #[.int .i64 4] (grow (redrawn W3 d) os) fun e w'' => e = .returned (.int .i64 4) ∧ ∃ p : Regrown, w'' = grow (redrawn W3 p.d) p.os) := Lib.hid (fun d os => Calls.regrown_of (by
    refine (specStride 4 (by decide) _).mono ?_
    rintro en w5 ⟨rfl, rfl⟩
    exact ⟨by kernel_rfl, Below.refl _ _⟩))
  have cD : Hid (∀ d os, Calls Tryz.prog 12 #[.agg #[.int .i64 k, .int .i64 l, .int .i64 s', .slice a3 n3 p3, .slice a4 n4 p4, .slice a5 n5 p5, .slice a6 n6 p6], .int .i64 4, .int .i64 dg, .bool true] (grow (redrawn W3 d) os) fun e w'' => e = .returned (.tuple #[.string ⟨t.toArray⟩, .bool ok]) ∧ ∃ p : Regrown, w'' = grow (redrawn W3 p.d) p.os) := Lib.hid (fun d os => Calls.regrown_of (by
    refine (HBD.out _ (HGR.out d os)).mono ?_
    rintro en w5 ⟨rfl, hb5⟩
    exact ⟨rfl, hb5⟩))
  clear HBD
  refine wp_region_quiet_below hmix (by kernel_rfl) ?_
  repeat (go_big_quiet_step (first | exact cS.out _ _ | exact cD.out _ _))
  refine wpQuiet_nil ?_
  intro _ hw'
  obtain ⟨⟨dq, osq⟩, hw''⟩ := hw'
  subst hw''
  have HB6 := Lib.hid (HGR.out dq osq)
  have r0 := k0 dq osq
  clear k0 k1 k2 k3 k4 k5 k6 cS cD HGR
  generalize grow (redrawn W3 dq) osq = w6 at *
  cases ok with
  | false =>
    clear hA1 hA2 hA3 HK
    go_wp2_with fail
    go_ret2
    exact ⟨fun h => absurd h (by simp), fun _ => ⟨rfl, HB6.out⟩⟩
  | true =>
    go_wp2_with fail
    refine (HK.out _).mono ?_
    rintro en w' ⟨rfl, rfl⟩
    go_wp2_with fail
    go_ret2
    exact ⟨fun _ => ⟨by rw [HX.out, ← HKK.out, ← ba_app (K ++ [32] ++ [90, 77, 32]) t, ← ba_app (K ++ [32]) [90, 77, 32], ← ba_app K [32]]; rfl, HB6.out⟩, fun h => by simp at h⟩
end Go.Proofs.YtlmilelopajdiaaGreatDoor
