/-
  The statement's side: Good at what is no collection.
-/
import Derived.Test.YtlmilelopajdiaaGreatDoorUH2
namespace Go.Proofs.YtlmilelopajdiaaGreatDoor
open Go.RowKit

/-- What Good answers. -/
def GOut (g : Gm) (w : World) (e : Ending) (w' : World) : Prop := ∃ r, e = .returned (.bool r) ∧ Below w.heap.size w w' ∧ (r = true ↔ GoodX g)
def GAns (g : Gm) : Prop := ∀ (w : World) (B : Nat) (cs : List Value), ARep w B g cs → B ≤ w.heap.size → Calls Tryz.prog 10 #[.agg cs.toArray] w fun e w' => GOut g w e w'
theorem notX {r : Bool} {g : Gm} (h : r = false) (hn : ¬ GoodX g) : r = true ↔ GoodX g := by subst h; exact ⟨fun h => Bool.noConfusion h, fun h => absurd h hn⟩
theorem isX {r : Bool} {g : Gm} (h : r = true) (hn : GoodX g) : r = true ↔ GoodX g := ⟨fun _ => hn, fun _ => h⟩

set_option maxRecDepth 100000 in
set_option maxHeartbeats 2000000 in
theorem goodBad (k l s : Int) (f : List Nat) (e : List Int) (ee : List (List Int)) (kids : List Gm) (hk7 : k ≠ 7) (hbad : f.length % (stride l).toNat ≠ 0 ∨ kids ≠ [] ∨ (ee ≠ [] ∧ k ≠ 6)) (hL : Lay (.mk k l s f e ee kids)) (hw : ∀ x ∈ e, x ≤ 9223372036854775807) (hw2 : ∀ es ∈ ee, ∀ x ∈ es, x ≤ 9223372036854775807) : GAns (.mk k l s f e ee kids) := by
  intro w B cs h hB
  obtain ⟨s', a3, p3, a4, p4, a5, p5, a6, p6, hcs⟩ := arep_lit h
  simp only [Gm.kind, Gm.layout, Gm.flat, Gm.ends, Gm.endss, Gm.kids] at hcs
  rw [hcs] at h ⊢
  rw [arep_eq] at h
  obtain ⟨vf, ve, vee, vk, e1, hrf, hre, ⟨vs, hrs, hvl, hvi⟩, _⟩ := h
  simp only [List.cons.injEq, and_true] at e1
  obtain ⟨_, _, _, e4, e5, e6, _⟩ := e1
  subst e4 e5 e6
  have hL' := (lay_eq ..).1 hL
  have hl1 := hL'.1 hk7
  have hsb := stride_bd l hl1 hL'.2.2.1
  obtain ⟨st, hst⟩ : ∃ st, st = (stride l).toNat := ⟨_, rfl⟩
  rw [← hst] at hsb
  have HST : Hid (∀ w, Calls Tryz.prog 13 #[.int .i64 l] w fun e w' => e = .returned (.int .i64 (st : Nat)) ∧ w = w') := Lib.hid (by intro w; rw [← hsb.1]; exact specStride l hL'.2.1 w)
  have hs1 := hsb.2.1
  have hs2 := hsb.2.2
  have hs0 : ((st : Int) == 0) = false := beq_eq_false_iff_ne.2 (by omega)
  obtain ⟨n3, hn3⟩ : ∃ n, n = f.length := ⟨_, rfl⟩
  obtain ⟨n4, hn4⟩ : ∃ n, n = e.length := ⟨_, rfl⟩
  obtain ⟨n5, hn5⟩ : ∃ n, n = ee.length := ⟨_, rfl⟩
  obtain ⟨n6, hn6⟩ : ∃ n, n = kids.length := ⟨_, rfl⟩
  rw [← hn3, ← hn4, ← hn5, ← hn6]
  have hf9 : n3 ≤ 1000000000 := by
    obtain ⟨_, c, e, h1, h2, _⟩ := hrf
    rw [List.length_map] at h1 h2; omega
  obtain ⟨W1, hW1⟩ : ∃ W1, W1 = w.alloc (.cells #[.int .i64 k, .int .i64 l, .int .i64 s', .slice a3 n3 p3, .slice a4 n4 p4, .slice a5 n5 p5, .slice a6 n6 p6] 27) := ⟨_, rfl⟩
  have hbw : Below w.heap.size w W1 := by rw [hW1]; exact (Below.refl _ _).alloc (Nat.le_refl _) _
  have hbx : Box W1 w.heap.size k l s' (.slice a3 n3 p3) (.slice a4 n4 p4) (.slice a5 n5 p5) (.slice a6 n6 p6) := by unfold Box; rw [hW1]; exact heap_alloc_new w _
  have HRE : Hid (Row W1 B (.slice a4 n4 p4) (e.map iv)) := Lib.hid (by rw [hn4]; exact hre.below (hbw.mono hB))
  have HRS : Hid (Row W1 B (.slice a5 n5 p5) vs) := Lib.hid (by rw [hn5]; exact hrs.below (hbw.mono hB))
  have HVI : Hid (∀ (i : Nat) (x : Value) (es : List Int), vs[i]? = some x → ee[i]? = some es → Row W1 B x (es.map iv)) := Lib.hid (fun i x es hx he => (hvi i x es hx he).below (hbw.mono hB))
  have HVL := Lib.hid hvl
  have q0 := hbx.c0
  have q1 := hbx.c1
  have q3 := hbx.c3
  have q4 := hbx.c4
  have q5 := hbx.c5
  have q6 := hbx.c6
  obtain ⟨b1, hb1⟩ : ∃ b1, b1 = w.heap.size := ⟨_, rfl⟩
  rw [← hb1] at q0 q1 q3 q4 q5 q6
  have HB := Lib.hid hbw
  have H3 := Lib.hid hn3
  have H4 := Lib.hid hn4
  have H5 := Lib.hid hn5
  have H6 := Lib.hid hn6
  have HS := Lib.hid hst
  have HLL := Lib.hid hL'
  have HW := Lib.hid hw
  have HW2 := Lib.hid hw2
  have hrem : (n3 : Int).tmod (st : Int) = ((n3 % st : Nat) : Int) := rfl
  obtain ⟨r, hr⟩ : ∃ r, r = n3 % st := ⟨_, rfl⟩
  rw [← hr] at hrem
  have HR := Lib.hid hr
  have t7 : (k == 7) = false := beq_eq_false_iff_ne.2 hk7
  have HBAD := Lib.hid hbad
  have HNO : Hid (¬ GoodX (.mk k l s f e ee kids)) := Lib.hid (by
    rw [goodX_one hk7]
    rintro ⟨x1, x2, x3, _⟩
    rcases hbad with h | h | h
    · exact h x1
    · exact h x2
    · rcases x3 with x3 | x3
      · exact h.1 x3
      · exact h.2 x3)
  clear hbad
  clear hcs hrf hre hrs hvl hvi hL hL' hl1 hsb hst hn3 hn4 hn5 hn6 hbx hbw hw hw2 hr
  by_cases h0 : r = 0
  · subst h0
    by_cases h1 : n6 = 0
    · have hk : ee ≠ [] ∧ k ≠ 6 := by
        rcases HBAD.out with h | h | h
        · exact absurd (by rw [← H3.out, ← HS.out, ← HR.out]) h
        · exact absurd (List.length_eq_zero_iff.1 (by rw [← H6.out]; exact h1)) h
        · exact h
      have t6 : (k != 6) = true := bne_iff_ne.2 hk.2
      have h5 : 0 < n5 := by rw [H5.out]; exact List.length_pos_iff.2 hk.1
      subst h1
      clear hk HRE HRS HVI HVL HBAD
      go_enter Tryz.func10, Tryz.ntmps10
      go_wp2_with fail
      rw [← hW1, ← hb1]
      clear hW1 hb1
      refine (HST.out W1).mono ?_
      rintro en w' ⟨rfl, rfl⟩
      go_wp2_with fail
      go_ret
      exact ⟨false, rfl, HB.out, notX rfl HNO.out⟩
    · have h1' : 0 < n6 := by omega
      clear h1 HRE HRS HVI HVL HBAD
      go_enter Tryz.func10, Tryz.ntmps10
      go_wp2_with fail
      rw [← hW1, ← hb1]
      clear hW1 hb1
      refine (HST.out W1).mono ?_
      rintro en w' ⟨rfl, rfl⟩
      go_wp2_with fail
      go_ret
      exact ⟨false, rfl, HB.out, notX rfl HNO.out⟩
  · have h1 : ((r : Int) != 0) = true := by simp; omega
    clear h0 HRE HRS HVI HVL HBAD
    go_enter Tryz.func10, Tryz.ntmps10
    go_wp2_with fail
    rw [← hW1, ← hb1]
    clear hW1 hb1
    refine (HST.out W1).mono ?_
    rintro en w' ⟨rfl, rfl⟩
    go_wp2_with fail
    go_ret
    exact ⟨false, rfl, HB.out, notX rfl HNO.out⟩

set_option maxRecDepth 100000 in
set_option maxHeartbeats 2000000 in
theorem goodNone (k l s : Int) (f : List Nat) (e : List Int) (ee : List (List Int)) (kids : List Gm) (hk7 : k ≠ 7) (hok : f.length % (stride l).toNat = 0 ∧ kids = [] ∧ (ee = [] ∨ k = 6)) (hk : k ≠ 1 ∧ k ≠ 2 ∧ k ≠ 8 ∧ k ≠ 3 ∧ k ≠ 4 ∧ k ≠ 5 ∧ k ≠ 6) (hL : Lay (.mk k l s f e ee kids)) (hw : ∀ x ∈ e, x ≤ 9223372036854775807) (hw2 : ∀ es ∈ ee, ∀ x ∈ es, x ≤ 9223372036854775807) : GAns (.mk k l s f e ee kids) := by
  intro w B cs h hB
  obtain ⟨s', a3, p3, a4, p4, a5, p5, a6, p6, hcs⟩ := arep_lit h
  simp only [Gm.kind, Gm.layout, Gm.flat, Gm.ends, Gm.endss, Gm.kids] at hcs
  rw [hcs] at h ⊢
  rw [arep_eq] at h
  obtain ⟨vf, ve, vee, vk, e1, hrf, hre, ⟨vs, hrs, hvl, hvi⟩, _⟩ := h
  simp only [List.cons.injEq, and_true] at e1
  obtain ⟨_, _, _, e4, e5, e6, _⟩ := e1
  subst e4 e5 e6
  have hL' := (lay_eq ..).1 hL
  have hl1 := hL'.1 hk7
  have hsb := stride_bd l hl1 hL'.2.2.1
  obtain ⟨st, hst⟩ : ∃ st, st = (stride l).toNat := ⟨_, rfl⟩
  rw [← hst] at hsb
  have HST : Hid (∀ w, Calls Tryz.prog 13 #[.int .i64 l] w fun e w' => e = .returned (.int .i64 (st : Nat)) ∧ w = w') := Lib.hid (by intro w; rw [← hsb.1]; exact specStride l hL'.2.1 w)
  have hs1 := hsb.2.1
  have hs2 := hsb.2.2
  have hs0 : ((st : Int) == 0) = false := beq_eq_false_iff_ne.2 (by omega)
  obtain ⟨n3, hn3⟩ : ∃ n, n = f.length := ⟨_, rfl⟩
  obtain ⟨n4, hn4⟩ : ∃ n, n = e.length := ⟨_, rfl⟩
  obtain ⟨n5, hn5⟩ : ∃ n, n = ee.length := ⟨_, rfl⟩
  obtain ⟨n6, hn6⟩ : ∃ n, n = kids.length := ⟨_, rfl⟩
  rw [← hn3, ← hn4, ← hn5, ← hn6]
  have hf9 : n3 ≤ 1000000000 := by
    obtain ⟨_, c, e, h1, h2, _⟩ := hrf
    rw [List.length_map] at h1 h2; omega
  obtain ⟨W1, hW1⟩ : ∃ W1, W1 = w.alloc (.cells #[.int .i64 k, .int .i64 l, .int .i64 s', .slice a3 n3 p3, .slice a4 n4 p4, .slice a5 n5 p5, .slice a6 n6 p6] 27) := ⟨_, rfl⟩
  have hbw : Below w.heap.size w W1 := by rw [hW1]; exact (Below.refl _ _).alloc (Nat.le_refl _) _
  have hbx : Box W1 w.heap.size k l s' (.slice a3 n3 p3) (.slice a4 n4 p4) (.slice a5 n5 p5) (.slice a6 n6 p6) := by unfold Box; rw [hW1]; exact heap_alloc_new w _
  have HRE : Hid (Row W1 B (.slice a4 n4 p4) (e.map iv)) := Lib.hid (by rw [hn4]; exact hre.below (hbw.mono hB))
  have HRS : Hid (Row W1 B (.slice a5 n5 p5) vs) := Lib.hid (by rw [hn5]; exact hrs.below (hbw.mono hB))
  have HVI : Hid (∀ (i : Nat) (x : Value) (es : List Int), vs[i]? = some x → ee[i]? = some es → Row W1 B x (es.map iv)) := Lib.hid (fun i x es hx he => (hvi i x es hx he).below (hbw.mono hB))
  have HVL := Lib.hid hvl
  have q0 := hbx.c0
  have q1 := hbx.c1
  have q3 := hbx.c3
  have q4 := hbx.c4
  have q5 := hbx.c5
  have q6 := hbx.c6
  obtain ⟨b1, hb1⟩ : ∃ b1, b1 = w.heap.size := ⟨_, rfl⟩
  rw [← hb1] at q0 q1 q3 q4 q5 q6
  have HB := Lib.hid hbw
  have H3 := Lib.hid hn3
  have H4 := Lib.hid hn4
  have H5 := Lib.hid hn5
  have H6 := Lib.hid hn6
  have HS := Lib.hid hst
  have HLL := Lib.hid hL'
  have HW := Lib.hid hw
  have HW2 := Lib.hid hw2
  have hrem : (n3 : Int).tmod (st : Int) = ((n3 % st : Nat) : Int) := rfl
  obtain ⟨r, hr⟩ : ∃ r, r = n3 % st := ⟨_, rfl⟩
  rw [← hr] at hrem
  have HR := Lib.hid hr
  have t7 : (k == 7) = false := beq_eq_false_iff_ne.2 hk7
  clear hcs hrf hre hrs hvl hvi hL hL' hl1 hsb hst hn3 hn4 hn5 hn6 hbx hbw hw hw2 hr
  obtain ⟨k1, k2, k8, k3, k4, k5, k6⟩ := hk
  have h5 : ee = [] := by rcases hok.2.2 with h | h; exact h; exact absurd h k6
  have h0 : r = 0 := by rw [HR.out, H3.out, HS.out]; exact hok.1
  have h1 : n6 = 0 := by rw [H6.out, hok.2.1]; rfl
  have h2 : n5 = 0 := by rw [H5.out, h5]; rfl
  have t1 : (k == 1) = false := beq_eq_false_iff_ne.2 k1
  have t2 : (k == 2) = false := beq_eq_false_iff_ne.2 k2
  have t8 : (k == 8) = false := beq_eq_false_iff_ne.2 k8
  have t3 : (k == 3) = false := beq_eq_false_iff_ne.2 k3
  have t4 : (k == 4) = false := beq_eq_false_iff_ne.2 k4
  have t5 : (k == 5) = false := beq_eq_false_iff_ne.2 k5
  have t6 : (k == 6) = false := beq_eq_false_iff_ne.2 k6
  have HNO : Hid (¬ GoodX (.mk k l s f e ee kids)) := Lib.hid (by
    rw [goodX_one hk7]
    rintro ⟨_, _, _, x4⟩
    rcases x4 with ⟨h, _⟩ | ⟨h, _⟩ | ⟨h, _⟩ | ⟨h, _⟩
    · exact k1 h
    · rcases h with h | h
      · exact k2 h
      · exact k8 h
    · rcases h with h | h | h
      · exact k3 h
      · exact k4 h
      · exact k5 h
    · exact k6 h)
  clear hok h5 k1 k2 k8 k3 k4 k5 k6 hk7 HRE HRS HVI HVL
  subst h0 h1 h2
  go_enter Tryz.func10, Tryz.ntmps10
  go_wp2_with fail
  rw [← hW1, ← hb1]
  clear hW1 hb1
  refine (HST.out W1).mono ?_
  rintro en w' ⟨rfl, rfl⟩
  go_wp2_with fail
  go_ret
  exact ⟨false, rfl, HB.out, notX rfl HNO.out⟩

set_option maxRecDepth 100000 in
set_option maxHeartbeats 2000000 in
theorem good1 (k l s : Int) (f : List Nat) (e : List Int) (ee : List (List Int)) (kids : List Gm) (hk7 : k ≠ 7) (hk : k = 1) (hok : f.length % (stride l).toNat = 0 ∧ kids = [] ∧ (ee = [] ∨ k = 6)) (hL : Lay (.mk k l s f e ee kids)) (hw : ∀ x ∈ e, x ≤ 9223372036854775807) (hw2 : ∀ es ∈ ee, ∀ x ∈ es, x ≤ 9223372036854775807) : GAns (.mk k l s f e ee kids) := by
  subst hk
  intro w B cs h hB
  obtain ⟨s', a3, p3, a4, p4, a5, p5, a6, p6, hcs⟩ := arep_lit h
  simp only [Gm.kind, Gm.layout, Gm.flat, Gm.ends, Gm.endss, Gm.kids] at hcs
  rw [hcs] at h ⊢
  rw [arep_eq] at h
  obtain ⟨vf, ve, vee, vk, e1, hrf, hre, ⟨vs, hrs, hvl, hvi⟩, _⟩ := h
  simp only [List.cons.injEq, and_true] at e1
  obtain ⟨_, _, _, e4, e5, e6, _⟩ := e1
  subst e4 e5 e6
  have hL' := (lay_eq ..).1 hL
  have hl1 := hL'.1 hk7
  have hsb := stride_bd l hl1 hL'.2.2.1
  obtain ⟨st, hst⟩ : ∃ st, st = (stride l).toNat := ⟨_, rfl⟩
  rw [← hst] at hsb
  have HST : Hid (∀ w, Calls Tryz.prog 13 #[.int .i64 l] w fun e w' => e = .returned (.int .i64 (st : Nat)) ∧ w = w') := Lib.hid (by intro w; rw [← hsb.1]; exact specStride l hL'.2.1 w)
  have hs1 := hsb.2.1
  have hs2 := hsb.2.2
  have hs0 : ((st : Int) == 0) = false := beq_eq_false_iff_ne.2 (by omega)
  obtain ⟨n3, hn3⟩ : ∃ n, n = f.length := ⟨_, rfl⟩
  obtain ⟨n4, hn4⟩ : ∃ n, n = e.length := ⟨_, rfl⟩
  obtain ⟨n5, hn5⟩ : ∃ n, n = ee.length := ⟨_, rfl⟩
  obtain ⟨n6, hn6⟩ : ∃ n, n = kids.length := ⟨_, rfl⟩
  rw [← hn3, ← hn4, ← hn5, ← hn6]
  have hf9 : n3 ≤ 1000000000 := by
    obtain ⟨_, c, e, h1, h2, _⟩ := hrf
    rw [List.length_map] at h1 h2; omega
  obtain ⟨W1, hW1⟩ : ∃ W1, W1 = w.alloc (.cells #[.int .i64 1, .int .i64 l, .int .i64 s', .slice a3 n3 p3, .slice a4 n4 p4, .slice a5 n5 p5, .slice a6 n6 p6] 27) := ⟨_, rfl⟩
  have hbw : Below w.heap.size w W1 := by rw [hW1]; exact (Below.refl _ _).alloc (Nat.le_refl _) _
  have hbx : Box W1 w.heap.size 1 l s' (.slice a3 n3 p3) (.slice a4 n4 p4) (.slice a5 n5 p5) (.slice a6 n6 p6) := by unfold Box; rw [hW1]; exact heap_alloc_new w _
  have HRE : Hid (Row W1 B (.slice a4 n4 p4) (e.map iv)) := Lib.hid (by rw [hn4]; exact hre.below (hbw.mono hB))
  have HRS : Hid (Row W1 B (.slice a5 n5 p5) vs) := Lib.hid (by rw [hn5]; exact hrs.below (hbw.mono hB))
  have HVI : Hid (∀ (i : Nat) (x : Value) (es : List Int), vs[i]? = some x → ee[i]? = some es → Row W1 B x (es.map iv)) := Lib.hid (fun i x es hx he => (hvi i x es hx he).below (hbw.mono hB))
  have HVL := Lib.hid hvl
  have q0 := hbx.c0
  have q1 := hbx.c1
  have q3 := hbx.c3
  have q4 := hbx.c4
  have q5 := hbx.c5
  have q6 := hbx.c6
  obtain ⟨b1, hb1⟩ : ∃ b1, b1 = w.heap.size := ⟨_, rfl⟩
  rw [← hb1] at q0 q1 q3 q4 q5 q6
  have HB := Lib.hid hbw
  have H3 := Lib.hid hn3
  have H4 := Lib.hid hn4
  have H5 := Lib.hid hn5
  have H6 := Lib.hid hn6
  have HS := Lib.hid hst
  have HLL := Lib.hid hL'
  have HW := Lib.hid hw
  have HW2 := Lib.hid hw2
  have hrem : (n3 : Int).tmod (st : Int) = ((n3 % st : Nat) : Int) := rfl
  obtain ⟨r, hr⟩ : ∃ r, r = n3 % st := ⟨_, rfl⟩
  rw [← hr] at hrem
  have HR := Lib.hid hr
  clear hcs hrf hre hrs hvl hvi hL hL' hl1 hsb hst hn3 hn4 hn5 hn6 hbx hbw hw hw2 hr
  have h0 : r = 0 := by rw [HR.out, H3.out, HS.out]; exact hok.1
  have h1 : n6 = 0 := by rw [H6.out, hok.2.1]; rfl
  have HDIV := Lib.hid hok.1
  have HK := Lib.hid hok.2.1
  have HEE := Lib.hid hok.2.2
  have h2 : n5 = 0 := by rw [H5.out, hok.2.2.resolve_right (by decide)]; rfl
  clear hok hk7
  subst h0 h1 h2
  clear HRE HRS HVI HVL
  by_cases h3 : n4 = 0
  · have he : e = [] := List.length_eq_zero_iff.1 (by rw [← H4.out]; exact h3)
    subst h3
    by_cases h4 : n3 ≤ st
    · have HG : Hid (GoodX (.mk 1 l s f e ee kids)) := Lib.hid (by
        rw [goodX_one (by decide)]
        exact ⟨HDIV.out, HK.out, HEE.out, Or.inl ⟨rfl, he, by rw [← H3.out, ← HS.out]; exact h4⟩⟩)
      have h4' : (n3 : Int) ≤ (st : Int) := by omega
      clear he
      go_enter Tryz.func10, Tryz.ntmps10
      go_wp2_with fail
      rw [← hW1, ← hb1]
      clear hW1 hb1
      refine (HST.out W1).mono ?_
      rintro en w' ⟨rfl, rfl⟩
      go_wp2_with fail
      go_ret
      exact ⟨_, rfl, HB.out, isX (by first | rfl | (simp; done) | (simp; omega)) HG.out⟩
    · have HNO : Hid (¬ GoodX (.mk 1 l s f e ee kids)) := Lib.hid (by
        rw [goodX_one (by decide)]
        rintro ⟨_, _, _, x4⟩
        rcases x4 with ⟨_, _, h⟩ | ⟨h, _⟩ | ⟨h, _⟩ | ⟨h, _⟩
        · rw [← H3.out, ← HS.out] at h; exact h4 h
        · omega
        · omega
        · omega)
      have h4' : (st : Int) < (n3 : Int) := by omega
      clear h4 he
      go_enter Tryz.func10, Tryz.ntmps10
      go_wp2_with fail
      rw [← hW1, ← hb1]
      clear hW1 hb1
      refine (HST.out W1).mono ?_
      rintro en w' ⟨rfl, rfl⟩
      go_wp2_with fail
      go_ret
      exact ⟨_, rfl, HB.out, notX (by first | rfl | (simp; done) | (simp; omega)) HNO.out⟩
  · have HNO : Hid (¬ GoodX (.mk 1 l s f e ee kids)) := Lib.hid (by
      rw [goodX_one (by decide)]
      rintro ⟨_, _, _, x4⟩
      rcases x4 with ⟨_, h, _⟩ | ⟨h, _⟩ | ⟨h, _⟩ | ⟨h, _⟩
      · rw [h] at H4; exact h3 H4.out
      · omega
      · omega
      · omega)
    have h3' : ((n4 : Int) == 0) = false := beq_eq_false_iff_ne.2 (by omega)
    clear h3
    go_enter Tryz.func10, Tryz.ntmps10
    go_wp2_with fail
    rw [← hW1, ← hb1]
    clear hW1 hb1
    refine (HST.out W1).mono ?_
    rintro en w' ⟨rfl, rfl⟩
    go_wp2_with fail
    go_ret
    exact ⟨_, rfl, HB.out, notX rfl HNO.out⟩

set_option maxRecDepth 100000 in
set_option maxHeartbeats 2000000 in
theorem good2 (k l s : Int) (f : List Nat) (e : List Int) (ee : List (List Int)) (kids : List Gm) (hk7 : k ≠ 7) (hk : k = 2) (hok : f.length % (stride l).toNat = 0 ∧ kids = [] ∧ (ee = [] ∨ k = 6)) (hL : Lay (.mk k l s f e ee kids)) (hw : ∀ x ∈ e, x ≤ 9223372036854775807) (hw2 : ∀ es ∈ ee, ∀ x ∈ es, x ≤ 9223372036854775807) : GAns (.mk k l s f e ee kids) := by
  subst hk
  intro w B cs h hB
  obtain ⟨s', a3, p3, a4, p4, a5, p5, a6, p6, hcs⟩ := arep_lit h
  simp only [Gm.kind, Gm.layout, Gm.flat, Gm.ends, Gm.endss, Gm.kids] at hcs
  rw [hcs] at h ⊢
  rw [arep_eq] at h
  obtain ⟨vf, ve, vee, vk, e1, hrf, hre, ⟨vs, hrs, hvl, hvi⟩, _⟩ := h
  simp only [List.cons.injEq, and_true] at e1
  obtain ⟨_, _, _, e4, e5, e6, _⟩ := e1
  subst e4 e5 e6
  have hL' := (lay_eq ..).1 hL
  have hl1 := hL'.1 hk7
  have hsb := stride_bd l hl1 hL'.2.2.1
  obtain ⟨st, hst⟩ : ∃ st, st = (stride l).toNat := ⟨_, rfl⟩
  rw [← hst] at hsb
  have HST : Hid (∀ w, Calls Tryz.prog 13 #[.int .i64 l] w fun e w' => e = .returned (.int .i64 (st : Nat)) ∧ w = w') := Lib.hid (by intro w; rw [← hsb.1]; exact specStride l hL'.2.1 w)
  have hs1 := hsb.2.1
  have hs2 := hsb.2.2
  have hs0 : ((st : Int) == 0) = false := beq_eq_false_iff_ne.2 (by omega)
  obtain ⟨n3, hn3⟩ : ∃ n, n = f.length := ⟨_, rfl⟩
  obtain ⟨n4, hn4⟩ : ∃ n, n = e.length := ⟨_, rfl⟩
  obtain ⟨n5, hn5⟩ : ∃ n, n = ee.length := ⟨_, rfl⟩
  obtain ⟨n6, hn6⟩ : ∃ n, n = kids.length := ⟨_, rfl⟩
  rw [← hn3, ← hn4, ← hn5, ← hn6]
  have hf9 : n3 ≤ 1000000000 := by
    obtain ⟨_, c, e, h1, h2, _⟩ := hrf
    rw [List.length_map] at h1 h2; omega
  obtain ⟨W1, hW1⟩ : ∃ W1, W1 = w.alloc (.cells #[.int .i64 2, .int .i64 l, .int .i64 s', .slice a3 n3 p3, .slice a4 n4 p4, .slice a5 n5 p5, .slice a6 n6 p6] 27) := ⟨_, rfl⟩
  have hbw : Below w.heap.size w W1 := by rw [hW1]; exact (Below.refl _ _).alloc (Nat.le_refl _) _
  have hbx : Box W1 w.heap.size 2 l s' (.slice a3 n3 p3) (.slice a4 n4 p4) (.slice a5 n5 p5) (.slice a6 n6 p6) := by unfold Box; rw [hW1]; exact heap_alloc_new w _
  have HRE : Hid (Row W1 B (.slice a4 n4 p4) (e.map iv)) := Lib.hid (by rw [hn4]; exact hre.below (hbw.mono hB))
  have HRS : Hid (Row W1 B (.slice a5 n5 p5) vs) := Lib.hid (by rw [hn5]; exact hrs.below (hbw.mono hB))
  have HVI : Hid (∀ (i : Nat) (x : Value) (es : List Int), vs[i]? = some x → ee[i]? = some es → Row W1 B x (es.map iv)) := Lib.hid (fun i x es hx he => (hvi i x es hx he).below (hbw.mono hB))
  have HVL := Lib.hid hvl
  have q0 := hbx.c0
  have q1 := hbx.c1
  have q3 := hbx.c3
  have q4 := hbx.c4
  have q5 := hbx.c5
  have q6 := hbx.c6
  obtain ⟨b1, hb1⟩ : ∃ b1, b1 = w.heap.size := ⟨_, rfl⟩
  rw [← hb1] at q0 q1 q3 q4 q5 q6
  have HB := Lib.hid hbw
  have H3 := Lib.hid hn3
  have H4 := Lib.hid hn4
  have H5 := Lib.hid hn5
  have H6 := Lib.hid hn6
  have HS := Lib.hid hst
  have HLL := Lib.hid hL'
  have HW := Lib.hid hw
  have HW2 := Lib.hid hw2
  have hrem : (n3 : Int).tmod (st : Int) = ((n3 % st : Nat) : Int) := rfl
  obtain ⟨r, hr⟩ : ∃ r, r = n3 % st := ⟨_, rfl⟩
  rw [← hr] at hrem
  have HR := Lib.hid hr
  clear hcs hrf hre hrs hvl hvi hL hL' hl1 hsb hst hn3 hn4 hn5 hn6 hbx hbw hw hw2 hr
  have h0 : r = 0 := by rw [HR.out, H3.out, HS.out]; exact hok.1
  have h1 : n6 = 0 := by rw [H6.out, hok.2.1]; rfl
  have HDIV := Lib.hid hok.1
  have HK := Lib.hid hok.2.1
  have HEE := Lib.hid hok.2.2
  have h2 : n5 = 0 := by rw [H5.out, hok.2.2.resolve_right (by decide)]; rfl
  clear hok hk7
  subst h0 h1 h2
  clear HRE HRS HVI HVL
  by_cases h3 : n4 = 0
  · have HG : Hid (GoodX (.mk 2 l s f e ee kids)) := Lib.hid (by
      rw [goodX_one (by decide)]
      exact ⟨HDIV.out, HK.out, HEE.out, Or.inr (Or.inl ⟨by decide, List.length_eq_zero_iff.1 (by rw [← H4.out]; exact h3)⟩)⟩)
    subst h3
    go_enter Tryz.func10, Tryz.ntmps10
    go_wp2_with fail
    rw [← hW1, ← hb1]
    clear hW1 hb1
    refine (HST.out W1).mono ?_
    rintro en w' ⟨rfl, rfl⟩
    go_wp2_with fail
    go_ret
    exact ⟨_, rfl, HB.out, isX rfl HG.out⟩
  · have HNO : Hid (¬ GoodX (.mk 2 l s f e ee kids)) := Lib.hid (by
      rw [goodX_one (by decide)]
      rintro ⟨_, _, _, x4⟩
      rcases x4 with ⟨h, _⟩ | ⟨_, h⟩ | ⟨h, _⟩ | ⟨h, _⟩
      · omega
      · rw [h] at H4; exact h3 H4.out
      · omega
      · omega)
    have h3' : ((n4 : Int) == 0) = false := beq_eq_false_iff_ne.2 (by omega)
    clear h3
    go_enter Tryz.func10, Tryz.ntmps10
    go_wp2_with fail
    rw [← hW1, ← hb1]
    clear hW1 hb1
    refine (HST.out W1).mono ?_
    rintro en w' ⟨rfl, rfl⟩
    go_wp2_with fail
    go_ret
    exact ⟨_, rfl, HB.out, notX rfl HNO.out⟩

set_option maxRecDepth 100000 in
set_option maxHeartbeats 2000000 in
theorem good8 (k l s : Int) (f : List Nat) (e : List Int) (ee : List (List Int)) (kids : List Gm) (hk7 : k ≠ 7) (hk : k = 8) (hok : f.length % (stride l).toNat = 0 ∧ kids = [] ∧ (ee = [] ∨ k = 6)) (hL : Lay (.mk k l s f e ee kids)) (hw : ∀ x ∈ e, x ≤ 9223372036854775807) (hw2 : ∀ es ∈ ee, ∀ x ∈ es, x ≤ 9223372036854775807) : GAns (.mk k l s f e ee kids) := by
  subst hk
  intro w B cs h hB
  obtain ⟨s', a3, p3, a4, p4, a5, p5, a6, p6, hcs⟩ := arep_lit h
  simp only [Gm.kind, Gm.layout, Gm.flat, Gm.ends, Gm.endss, Gm.kids] at hcs
  rw [hcs] at h ⊢
  rw [arep_eq] at h
  obtain ⟨vf, ve, vee, vk, e1, hrf, hre, ⟨vs, hrs, hvl, hvi⟩, _⟩ := h
  simp only [List.cons.injEq, and_true] at e1
  obtain ⟨_, _, _, e4, e5, e6, _⟩ := e1
  subst e4 e5 e6
  have hL' := (lay_eq ..).1 hL
  have hl1 := hL'.1 hk7
  have hsb := stride_bd l hl1 hL'.2.2.1
  obtain ⟨st, hst⟩ : ∃ st, st = (stride l).toNat := ⟨_, rfl⟩
  rw [← hst] at hsb
  have HST : Hid (∀ w, Calls Tryz.prog 13 #[.int .i64 l] w fun e w' => e = .returned (.int .i64 (st : Nat)) ∧ w = w') := Lib.hid (by intro w; rw [← hsb.1]; exact specStride l hL'.2.1 w)
  have hs1 := hsb.2.1
  have hs2 := hsb.2.2
  have hs0 : ((st : Int) == 0) = false := beq_eq_false_iff_ne.2 (by omega)
  obtain ⟨n3, hn3⟩ : ∃ n, n = f.length := ⟨_, rfl⟩
  obtain ⟨n4, hn4⟩ : ∃ n, n = e.length := ⟨_, rfl⟩
  obtain ⟨n5, hn5⟩ : ∃ n, n = ee.length := ⟨_, rfl⟩
  obtain ⟨n6, hn6⟩ : ∃ n, n = kids.length := ⟨_, rfl⟩
  rw [← hn3, ← hn4, ← hn5, ← hn6]
  have hf9 : n3 ≤ 1000000000 := by
    obtain ⟨_, c, e, h1, h2, _⟩ := hrf
    rw [List.length_map] at h1 h2; omega
  obtain ⟨W1, hW1⟩ : ∃ W1, W1 = w.alloc (.cells #[.int .i64 8, .int .i64 l, .int .i64 s', .slice a3 n3 p3, .slice a4 n4 p4, .slice a5 n5 p5, .slice a6 n6 p6] 27) := ⟨_, rfl⟩
  have hbw : Below w.heap.size w W1 := by rw [hW1]; exact (Below.refl _ _).alloc (Nat.le_refl _) _
  have hbx : Box W1 w.heap.size 8 l s' (.slice a3 n3 p3) (.slice a4 n4 p4) (.slice a5 n5 p5) (.slice a6 n6 p6) := by unfold Box; rw [hW1]; exact heap_alloc_new w _
  have HRE : Hid (Row W1 B (.slice a4 n4 p4) (e.map iv)) := Lib.hid (by rw [hn4]; exact hre.below (hbw.mono hB))
  have HRS : Hid (Row W1 B (.slice a5 n5 p5) vs) := Lib.hid (by rw [hn5]; exact hrs.below (hbw.mono hB))
  have HVI : Hid (∀ (i : Nat) (x : Value) (es : List Int), vs[i]? = some x → ee[i]? = some es → Row W1 B x (es.map iv)) := Lib.hid (fun i x es hx he => (hvi i x es hx he).below (hbw.mono hB))
  have HVL := Lib.hid hvl
  have q0 := hbx.c0
  have q1 := hbx.c1
  have q3 := hbx.c3
  have q4 := hbx.c4
  have q5 := hbx.c5
  have q6 := hbx.c6
  obtain ⟨b1, hb1⟩ : ∃ b1, b1 = w.heap.size := ⟨_, rfl⟩
  rw [← hb1] at q0 q1 q3 q4 q5 q6
  have HB := Lib.hid hbw
  have H3 := Lib.hid hn3
  have H4 := Lib.hid hn4
  have H5 := Lib.hid hn5
  have H6 := Lib.hid hn6
  have HS := Lib.hid hst
  have HLL := Lib.hid hL'
  have HW := Lib.hid hw
  have HW2 := Lib.hid hw2
  have hrem : (n3 : Int).tmod (st : Int) = ((n3 % st : Nat) : Int) := rfl
  obtain ⟨r, hr⟩ : ∃ r, r = n3 % st := ⟨_, rfl⟩
  rw [← hr] at hrem
  have HR := Lib.hid hr
  clear hcs hrf hre hrs hvl hvi hL hL' hl1 hsb hst hn3 hn4 hn5 hn6 hbx hbw hw hw2 hr
  have h0 : r = 0 := by rw [HR.out, H3.out, HS.out]; exact hok.1
  have h1 : n6 = 0 := by rw [H6.out, hok.2.1]; rfl
  have HDIV := Lib.hid hok.1
  have HK := Lib.hid hok.2.1
  have HEE := Lib.hid hok.2.2
  have h2 : n5 = 0 := by rw [H5.out, hok.2.2.resolve_right (by decide)]; rfl
  clear hok hk7
  subst h0 h1 h2
  clear HRE HRS HVI HVL
  by_cases h3 : n4 = 0
  · have HG : Hid (GoodX (.mk 8 l s f e ee kids)) := Lib.hid (by
      rw [goodX_one (by decide)]
      exact ⟨HDIV.out, HK.out, HEE.out, Or.inr (Or.inl ⟨by decide, List.length_eq_zero_iff.1 (by rw [← H4.out]; exact h3)⟩)⟩)
    subst h3
    go_enter Tryz.func10, Tryz.ntmps10
    go_wp2_with fail
    rw [← hW1, ← hb1]
    clear hW1 hb1
    refine (HST.out W1).mono ?_
    rintro en w' ⟨rfl, rfl⟩
    go_wp2_with fail
    go_ret
    exact ⟨_, rfl, HB.out, isX rfl HG.out⟩
  · have HNO : Hid (¬ GoodX (.mk 8 l s f e ee kids)) := Lib.hid (by
      rw [goodX_one (by decide)]
      rintro ⟨_, _, _, x4⟩
      rcases x4 with ⟨h, _⟩ | ⟨_, h⟩ | ⟨h, _⟩ | ⟨h, _⟩
      · omega
      · rw [h] at H4; exact h3 H4.out
      · omega
      · omega)
    have h3' : ((n4 : Int) == 0) = false := beq_eq_false_iff_ne.2 (by omega)
    clear h3
    go_enter Tryz.func10, Tryz.ntmps10
    go_wp2_with fail
    rw [← hW1, ← hb1]
    clear hW1 hb1
    refine (HST.out W1).mono ?_
    rintro en w' ⟨rfl, rfl⟩
    go_wp2_with fail
    go_ret
    exact ⟨_, rfl, HB.out, notX rfl HNO.out⟩

set_option maxRecDepth 100000 in
set_option maxHeartbeats 2000000 in
theorem good3 (k l s : Int) (f : List Nat) (e : List Int) (ee : List (List Int)) (kids : List Gm) (hk7 : k ≠ 7) (hk : k = 3) (hok : f.length % (stride l).toNat = 0 ∧ kids = [] ∧ (ee = [] ∨ k = 6)) (hL : Lay (.mk k l s f e ee kids)) (hw : ∀ x ∈ e, x ≤ 9223372036854775807) (hw2 : ∀ es ∈ ee, ∀ x ∈ es, x ≤ 9223372036854775807) : GAns (.mk k l s f e ee kids) := by
  subst hk
  intro w B cs h hB
  obtain ⟨s', a3, p3, a4, p4, a5, p5, a6, p6, hcs⟩ := arep_lit h
  simp only [Gm.kind, Gm.layout, Gm.flat, Gm.ends, Gm.endss, Gm.kids] at hcs
  rw [hcs] at h ⊢
  rw [arep_eq] at h
  obtain ⟨vf, ve, vee, vk, e1, hrf, hre, ⟨vs, hrs, hvl, hvi⟩, _⟩ := h
  simp only [List.cons.injEq, and_true] at e1
  obtain ⟨_, _, _, e4, e5, e6, _⟩ := e1
  subst e4 e5 e6
  have hL' := (lay_eq ..).1 hL
  have hl1 := hL'.1 hk7
  have hsb := stride_bd l hl1 hL'.2.2.1
  obtain ⟨st, hst⟩ : ∃ st, st = (stride l).toNat := ⟨_, rfl⟩
  rw [← hst] at hsb
  have HST : Hid (∀ w, Calls Tryz.prog 13 #[.int .i64 l] w fun e w' => e = .returned (.int .i64 (st : Nat)) ∧ w = w') := Lib.hid (by intro w; rw [← hsb.1]; exact specStride l hL'.2.1 w)
  have hs1 := hsb.2.1
  have hs2 := hsb.2.2
  have hs0 : ((st : Int) == 0) = false := beq_eq_false_iff_ne.2 (by omega)
  obtain ⟨n3, hn3⟩ : ∃ n, n = f.length := ⟨_, rfl⟩
  obtain ⟨n4, hn4⟩ : ∃ n, n = e.length := ⟨_, rfl⟩
  obtain ⟨n5, hn5⟩ : ∃ n, n = ee.length := ⟨_, rfl⟩
  obtain ⟨n6, hn6⟩ : ∃ n, n = kids.length := ⟨_, rfl⟩
  rw [← hn3, ← hn4, ← hn5, ← hn6]
  have hf9 : n3 ≤ 1000000000 := by
    obtain ⟨_, c, e, h1, h2, _⟩ := hrf
    rw [List.length_map] at h1 h2; omega
  obtain ⟨W1, hW1⟩ : ∃ W1, W1 = w.alloc (.cells #[.int .i64 3, .int .i64 l, .int .i64 s', .slice a3 n3 p3, .slice a4 n4 p4, .slice a5 n5 p5, .slice a6 n6 p6] 27) := ⟨_, rfl⟩
  have hbw : Below w.heap.size w W1 := by rw [hW1]; exact (Below.refl _ _).alloc (Nat.le_refl _) _
  have hbx : Box W1 w.heap.size 3 l s' (.slice a3 n3 p3) (.slice a4 n4 p4) (.slice a5 n5 p5) (.slice a6 n6 p6) := by unfold Box; rw [hW1]; exact heap_alloc_new w _
  have HRE : Hid (Row W1 B (.slice a4 n4 p4) (e.map iv)) := Lib.hid (by rw [hn4]; exact hre.below (hbw.mono hB))
  have HRS : Hid (Row W1 B (.slice a5 n5 p5) vs) := Lib.hid (by rw [hn5]; exact hrs.below (hbw.mono hB))
  have HVI : Hid (∀ (i : Nat) (x : Value) (es : List Int), vs[i]? = some x → ee[i]? = some es → Row W1 B x (es.map iv)) := Lib.hid (fun i x es hx he => (hvi i x es hx he).below (hbw.mono hB))
  have HVL := Lib.hid hvl
  have q0 := hbx.c0
  have q1 := hbx.c1
  have q3 := hbx.c3
  have q4 := hbx.c4
  have q5 := hbx.c5
  have q6 := hbx.c6
  obtain ⟨b1, hb1⟩ : ∃ b1, b1 = w.heap.size := ⟨_, rfl⟩
  rw [← hb1] at q0 q1 q3 q4 q5 q6
  have HB := Lib.hid hbw
  have H3 := Lib.hid hn3
  have H4 := Lib.hid hn4
  have H5 := Lib.hid hn5
  have H6 := Lib.hid hn6
  have HS := Lib.hid hst
  have HLL := Lib.hid hL'
  have HW := Lib.hid hw
  have HW2 := Lib.hid hw2
  have hrem : (n3 : Int).tmod (st : Int) = ((n3 % st : Nat) : Int) := rfl
  obtain ⟨r, hr⟩ : ∃ r, r = n3 % st := ⟨_, rfl⟩
  rw [← hr] at hrem
  have HR := Lib.hid hr
  clear hcs hrf hre hrs hvl hvi hL hL' hl1 hsb hst hn3 hn4 hn5 hn6 hbx hbw hw hw2 hr
  have h0 : r = 0 := by rw [HR.out, H3.out, HS.out]; exact hok.1
  have h1 : n6 = 0 := by rw [H6.out, hok.2.1]; rfl
  have HDIV := Lib.hid hok.1
  have HK := Lib.hid hok.2.1
  have HEE := Lib.hid hok.2.2
  have h2 : n5 = 0 := by rw [H5.out, hok.2.2.resolve_right (by decide)]; rfl
  clear hok hk7
  subst h0 h1 h2
  have HGE := Lib.hid (goodEnds e 0 st false B (.slice a4 n4 p4) W1 HRE.out (by decide) (by decide) hs1 hs2 HW.out)
  clear HRE HRS HVI HVL
  go_enter Tryz.func10, Tryz.ntmps10
  go_wp2_with fail
  rw [← hW1, ← hb1]
  clear hW1 hb1
  refine (HST.out W1).mono ?_
  rintro en w' ⟨rfl, rfl⟩
  go_wp2_with fail
  refine HGE.out.mono ?_
  rintro en w' ⟨rfl, z, ok, rfl, hz0, hz1, hz, hzn⟩
  have HZ := Lib.hid hz
  have HZN := Lib.hid hzn
  clear HGE hz hzn
  cases ok with
  | false =>
    have HNO : Hid (¬ GoodX (.mk 3 l s f e ee kids)) := Lib.hid (by
      rw [goodX_one (by decide)]
      rintro ⟨_, _, _, x4⟩
      rcases x4 with ⟨h, _⟩ | ⟨h, _⟩ | ⟨_, h, _⟩ | ⟨h, _⟩
      · omega
      · omega
      · rw [← HS.out] at h; exact HZN.out rfl h
      · omega)
    clear HZ HZN
    go_wp2_with fail
    go_ret
    exact ⟨_, rfl, HB.out, notX rfl HNO.out⟩
  | true =>
    by_cases h5 : z = (n3 : Int)
    · have HG : Hid (GoodX (.mk 3 l s f e ee kids)) := Lib.hid (by
        rw [goodX_one (by decide)]
        have hZ := HZ.out rfl
        exact ⟨HDIV.out, HK.out, HEE.out, Or.inr (Or.inr (Or.inl ⟨by decide, by rw [← HS.out]; exact hZ.1, by rw [← hZ.2, h5, H3.out]⟩))⟩)
      clear HZ HZN
      subst h5
      go_wp2_with fail
      go_ret
      exact ⟨_, rfl, HB.out, isX rfl HG.out⟩
    · have HNO : Hid (¬ GoodX (.mk 3 l s f e ee kids)) := Lib.hid (by
        rw [goodX_one (by decide)]
        rintro ⟨_, _, _, x4⟩
        rcases x4 with ⟨h, _⟩ | ⟨h, _⟩ | ⟨_, _, h⟩ | ⟨h, _⟩
        · omega
        · omega
        · have hZ := HZ.out rfl
          rw [← hZ.2, ← H3.out] at h; exact h5 h
        · omega)
      have h5' : (z == (n3 : Int)) = false := beq_eq_false_iff_ne.2 h5
      clear HZ HZN h5
      go_wp2_with fail
      go_ret
      exact ⟨_, rfl, HB.out, notX rfl HNO.out⟩

set_option maxRecDepth 100000 in
set_option maxHeartbeats 2000000 in
theorem good4 (k l s : Int) (f : List Nat) (e : List Int) (ee : List (List Int)) (kids : List Gm) (hk7 : k ≠ 7) (hk : k = 4) (hok : f.length % (stride l).toNat = 0 ∧ kids = [] ∧ (ee = [] ∨ k = 6)) (hL : Lay (.mk k l s f e ee kids)) (hw : ∀ x ∈ e, x ≤ 9223372036854775807) (hw2 : ∀ es ∈ ee, ∀ x ∈ es, x ≤ 9223372036854775807) : GAns (.mk k l s f e ee kids) := by
  subst hk
  intro w B cs h hB
  obtain ⟨s', a3, p3, a4, p4, a5, p5, a6, p6, hcs⟩ := arep_lit h
  simp only [Gm.kind, Gm.layout, Gm.flat, Gm.ends, Gm.endss, Gm.kids] at hcs
  rw [hcs] at h ⊢
  rw [arep_eq] at h
  obtain ⟨vf, ve, vee, vk, e1, hrf, hre, ⟨vs, hrs, hvl, hvi⟩, _⟩ := h
  simp only [List.cons.injEq, and_true] at e1
  obtain ⟨_, _, _, e4, e5, e6, _⟩ := e1
  subst e4 e5 e6
  have hL' := (lay_eq ..).1 hL
  have hl1 := hL'.1 hk7
  have hsb := stride_bd l hl1 hL'.2.2.1
  obtain ⟨st, hst⟩ : ∃ st, st = (stride l).toNat := ⟨_, rfl⟩
  rw [← hst] at hsb
  have HST : Hid (∀ w, Calls Tryz.prog 13 #[.int .i64 l] w fun e w' => e = .returned (.int .i64 (st : Nat)) ∧ w = w') := Lib.hid (by intro w; rw [← hsb.1]; exact specStride l hL'.2.1 w)
  have hs1 := hsb.2.1
  have hs2 := hsb.2.2
  have hs0 : ((st : Int) == 0) = false := beq_eq_false_iff_ne.2 (by omega)
  obtain ⟨n3, hn3⟩ : ∃ n, n = f.length := ⟨_, rfl⟩
  obtain ⟨n4, hn4⟩ : ∃ n, n = e.length := ⟨_, rfl⟩
  obtain ⟨n5, hn5⟩ : ∃ n, n = ee.length := ⟨_, rfl⟩
  obtain ⟨n6, hn6⟩ : ∃ n, n = kids.length := ⟨_, rfl⟩
  rw [← hn3, ← hn4, ← hn5, ← hn6]
  have hf9 : n3 ≤ 1000000000 := by
    obtain ⟨_, c, e, h1, h2, _⟩ := hrf
    rw [List.length_map] at h1 h2; omega
  obtain ⟨W1, hW1⟩ : ∃ W1, W1 = w.alloc (.cells #[.int .i64 4, .int .i64 l, .int .i64 s', .slice a3 n3 p3, .slice a4 n4 p4, .slice a5 n5 p5, .slice a6 n6 p6] 27) := ⟨_, rfl⟩
  have hbw : Below w.heap.size w W1 := by rw [hW1]; exact (Below.refl _ _).alloc (Nat.le_refl _) _
  have hbx : Box W1 w.heap.size 4 l s' (.slice a3 n3 p3) (.slice a4 n4 p4) (.slice a5 n5 p5) (.slice a6 n6 p6) := by unfold Box; rw [hW1]; exact heap_alloc_new w _
  have HRE : Hid (Row W1 B (.slice a4 n4 p4) (e.map iv)) := Lib.hid (by rw [hn4]; exact hre.below (hbw.mono hB))
  have HRS : Hid (Row W1 B (.slice a5 n5 p5) vs) := Lib.hid (by rw [hn5]; exact hrs.below (hbw.mono hB))
  have HVI : Hid (∀ (i : Nat) (x : Value) (es : List Int), vs[i]? = some x → ee[i]? = some es → Row W1 B x (es.map iv)) := Lib.hid (fun i x es hx he => (hvi i x es hx he).below (hbw.mono hB))
  have HVL := Lib.hid hvl
  have q0 := hbx.c0
  have q1 := hbx.c1
  have q3 := hbx.c3
  have q4 := hbx.c4
  have q5 := hbx.c5
  have q6 := hbx.c6
  obtain ⟨b1, hb1⟩ : ∃ b1, b1 = w.heap.size := ⟨_, rfl⟩
  rw [← hb1] at q0 q1 q3 q4 q5 q6
  have HB := Lib.hid hbw
  have H3 := Lib.hid hn3
  have H4 := Lib.hid hn4
  have H5 := Lib.hid hn5
  have H6 := Lib.hid hn6
  have HS := Lib.hid hst
  have HLL := Lib.hid hL'
  have HW := Lib.hid hw
  have HW2 := Lib.hid hw2
  have hrem : (n3 : Int).tmod (st : Int) = ((n3 % st : Nat) : Int) := rfl
  obtain ⟨r, hr⟩ : ∃ r, r = n3 % st := ⟨_, rfl⟩
  rw [← hr] at hrem
  have HR := Lib.hid hr
  clear hcs hrf hre hrs hvl hvi hL hL' hl1 hsb hst hn3 hn4 hn5 hn6 hbx hbw hw hw2 hr
  have h0 : r = 0 := by rw [HR.out, H3.out, HS.out]; exact hok.1
  have h1 : n6 = 0 := by rw [H6.out, hok.2.1]; rfl
  have HDIV := Lib.hid hok.1
  have HK := Lib.hid hok.2.1
  have HEE := Lib.hid hok.2.2
  have h2 : n5 = 0 := by rw [H5.out, hok.2.2.resolve_right (by decide)]; rfl
  clear hok hk7
  subst h0 h1 h2
  have HGE := Lib.hid (goodEnds e 0 st true B (.slice a4 n4 p4) W1 HRE.out (by decide) (by decide) hs1 hs2 HW.out)
  clear HRE HRS HVI HVL
  go_enter Tryz.func10, Tryz.ntmps10
  go_wp2_with fail
  rw [← hW1, ← hb1]
  clear hW1 hb1
  refine (HST.out W1).mono ?_
  rintro en w' ⟨rfl, rfl⟩
  go_wp2_with fail
  refine HGE.out.mono ?_
  rintro en w' ⟨rfl, z, ok, rfl, hz0, hz1, hz, hzn⟩
  have HZ := Lib.hid hz
  have HZN := Lib.hid hzn
  clear HGE hz hzn
  cases ok with
  | false =>
    have HNO : Hid (¬ GoodX (.mk 4 l s f e ee kids)) := Lib.hid (by
      rw [goodX_one (by decide)]
      rintro ⟨_, _, _, x4⟩
      rcases x4 with ⟨h, _⟩ | ⟨h, _⟩ | ⟨_, h, _⟩ | ⟨h, _⟩
      · omega
      · omega
      · rw [← HS.out] at h; exact HZN.out rfl h
      · omega)
    clear HZ HZN
    go_wp2_with fail
    go_ret
    exact ⟨_, rfl, HB.out, notX rfl HNO.out⟩
  | true =>
    by_cases h5 : z = (n3 : Int)
    · have HG : Hid (GoodX (.mk 4 l s f e ee kids)) := Lib.hid (by
        rw [goodX_one (by decide)]
        have hZ := HZ.out rfl
        exact ⟨HDIV.out, HK.out, HEE.out, Or.inr (Or.inr (Or.inl ⟨by decide, by rw [← HS.out]; exact hZ.1, by rw [← hZ.2, h5, H3.out]⟩))⟩)
      clear HZ HZN
      subst h5
      go_wp2_with fail
      go_ret
      exact ⟨_, rfl, HB.out, isX rfl HG.out⟩
    · have HNO : Hid (¬ GoodX (.mk 4 l s f e ee kids)) := Lib.hid (by
        rw [goodX_one (by decide)]
        rintro ⟨_, _, _, x4⟩
        rcases x4 with ⟨h, _⟩ | ⟨h, _⟩ | ⟨_, _, h⟩ | ⟨h, _⟩
        · omega
        · omega
        · have hZ := HZ.out rfl
          rw [← hZ.2, ← H3.out] at h; exact h5 h
        · omega)
      have h5' : (z == (n3 : Int)) = false := beq_eq_false_iff_ne.2 h5
      clear HZ HZN h5
      go_wp2_with fail
      go_ret
      exact ⟨_, rfl, HB.out, notX rfl HNO.out⟩

set_option maxRecDepth 100000 in
set_option maxHeartbeats 2000000 in
theorem good5 (k l s : Int) (f : List Nat) (e : List Int) (ee : List (List Int)) (kids : List Gm) (hk7 : k ≠ 7) (hk : k = 5) (hok : f.length % (stride l).toNat = 0 ∧ kids = [] ∧ (ee = [] ∨ k = 6)) (hL : Lay (.mk k l s f e ee kids)) (hw : ∀ x ∈ e, x ≤ 9223372036854775807) (hw2 : ∀ es ∈ ee, ∀ x ∈ es, x ≤ 9223372036854775807) : GAns (.mk k l s f e ee kids) := by
  subst hk
  intro w B cs h hB
  obtain ⟨s', a3, p3, a4, p4, a5, p5, a6, p6, hcs⟩ := arep_lit h
  simp only [Gm.kind, Gm.layout, Gm.flat, Gm.ends, Gm.endss, Gm.kids] at hcs
  rw [hcs] at h ⊢
  rw [arep_eq] at h
  obtain ⟨vf, ve, vee, vk, e1, hrf, hre, ⟨vs, hrs, hvl, hvi⟩, _⟩ := h
  simp only [List.cons.injEq, and_true] at e1
  obtain ⟨_, _, _, e4, e5, e6, _⟩ := e1
  subst e4 e5 e6
  have hL' := (lay_eq ..).1 hL
  have hl1 := hL'.1 hk7
  have hsb := stride_bd l hl1 hL'.2.2.1
  obtain ⟨st, hst⟩ : ∃ st, st = (stride l).toNat := ⟨_, rfl⟩
  rw [← hst] at hsb
  have HST : Hid (∀ w, Calls Tryz.prog 13 #[.int .i64 l] w fun e w' => e = .returned (.int .i64 (st : Nat)) ∧ w = w') := Lib.hid (by intro w; rw [← hsb.1]; exact specStride l hL'.2.1 w)
  have hs1 := hsb.2.1
  have hs2 := hsb.2.2
  have hs0 : ((st : Int) == 0) = false := beq_eq_false_iff_ne.2 (by omega)
  obtain ⟨n3, hn3⟩ : ∃ n, n = f.length := ⟨_, rfl⟩
  obtain ⟨n4, hn4⟩ : ∃ n, n = e.length := ⟨_, rfl⟩
  obtain ⟨n5, hn5⟩ : ∃ n, n = ee.length := ⟨_, rfl⟩
  obtain ⟨n6, hn6⟩ : ∃ n, n = kids.length := ⟨_, rfl⟩
  rw [← hn3, ← hn4, ← hn5, ← hn6]
  have hf9 : n3 ≤ 1000000000 := by
    obtain ⟨_, c, e, h1, h2, _⟩ := hrf
    rw [List.length_map] at h1 h2; omega
  obtain ⟨W1, hW1⟩ : ∃ W1, W1 = w.alloc (.cells #[.int .i64 5, .int .i64 l, .int .i64 s', .slice a3 n3 p3, .slice a4 n4 p4, .slice a5 n5 p5, .slice a6 n6 p6] 27) := ⟨_, rfl⟩
  have hbw : Below w.heap.size w W1 := by rw [hW1]; exact (Below.refl _ _).alloc (Nat.le_refl _) _
  have hbx : Box W1 w.heap.size 5 l s' (.slice a3 n3 p3) (.slice a4 n4 p4) (.slice a5 n5 p5) (.slice a6 n6 p6) := by unfold Box; rw [hW1]; exact heap_alloc_new w _
  have HRE : Hid (Row W1 B (.slice a4 n4 p4) (e.map iv)) := Lib.hid (by rw [hn4]; exact hre.below (hbw.mono hB))
  have HRS : Hid (Row W1 B (.slice a5 n5 p5) vs) := Lib.hid (by rw [hn5]; exact hrs.below (hbw.mono hB))
  have HVI : Hid (∀ (i : Nat) (x : Value) (es : List Int), vs[i]? = some x → ee[i]? = some es → Row W1 B x (es.map iv)) := Lib.hid (fun i x es hx he => (hvi i x es hx he).below (hbw.mono hB))
  have HVL := Lib.hid hvl
  have q0 := hbx.c0
  have q1 := hbx.c1
  have q3 := hbx.c3
  have q4 := hbx.c4
  have q5 := hbx.c5
  have q6 := hbx.c6
  obtain ⟨b1, hb1⟩ : ∃ b1, b1 = w.heap.size := ⟨_, rfl⟩
  rw [← hb1] at q0 q1 q3 q4 q5 q6
  have HB := Lib.hid hbw
  have H3 := Lib.hid hn3
  have H4 := Lib.hid hn4
  have H5 := Lib.hid hn5
  have H6 := Lib.hid hn6
  have HS := Lib.hid hst
  have HLL := Lib.hid hL'
  have HW := Lib.hid hw
  have HW2 := Lib.hid hw2
  have hrem : (n3 : Int).tmod (st : Int) = ((n3 % st : Nat) : Int) := rfl
  obtain ⟨r, hr⟩ : ∃ r, r = n3 % st := ⟨_, rfl⟩
  rw [← hr] at hrem
  have HR := Lib.hid hr
  clear hcs hrf hre hrs hvl hvi hL hL' hl1 hsb hst hn3 hn4 hn5 hn6 hbx hbw hw hw2 hr
  have h0 : r = 0 := by rw [HR.out, H3.out, HS.out]; exact hok.1
  have h1 : n6 = 0 := by rw [H6.out, hok.2.1]; rfl
  have HDIV := Lib.hid hok.1
  have HK := Lib.hid hok.2.1
  have HEE := Lib.hid hok.2.2
  have h2 : n5 = 0 := by rw [H5.out, hok.2.2.resolve_right (by decide)]; rfl
  clear hok hk7
  subst h0 h1 h2
  have HGE := Lib.hid (goodEnds e 0 st false B (.slice a4 n4 p4) W1 HRE.out (by decide) (by decide) hs1 hs2 HW.out)
  clear HRE HRS HVI HVL
  go_enter Tryz.func10, Tryz.ntmps10
  go_wp2_with fail
  rw [← hW1, ← hb1]
  clear hW1 hb1
  refine (HST.out W1).mono ?_
  rintro en w' ⟨rfl, rfl⟩
  go_wp2_with fail
  refine HGE.out.mono ?_
  rintro en w' ⟨rfl, z, ok, rfl, hz0, hz1, hz, hzn⟩
  have HZ := Lib.hid hz
  have HZN := Lib.hid hzn
  clear HGE hz hzn
  cases ok with
  | false =>
    have HNO : Hid (¬ GoodX (.mk 5 l s f e ee kids)) := Lib.hid (by
      rw [goodX_one (by decide)]
      rintro ⟨_, _, _, x4⟩
      rcases x4 with ⟨h, _⟩ | ⟨h, _⟩ | ⟨_, h, _⟩ | ⟨h, _⟩
      · omega
      · omega
      · rw [← HS.out] at h; exact HZN.out rfl h
      · omega)
    clear HZ HZN
    go_wp2_with fail
    go_ret
    exact ⟨_, rfl, HB.out, notX rfl HNO.out⟩
  | true =>
    by_cases h5 : z = (n3 : Int)
    · have HG : Hid (GoodX (.mk 5 l s f e ee kids)) := Lib.hid (by
        rw [goodX_one (by decide)]
        have hZ := HZ.out rfl
        exact ⟨HDIV.out, HK.out, HEE.out, Or.inr (Or.inr (Or.inl ⟨by decide, by rw [← HS.out]; exact hZ.1, by rw [← hZ.2, h5, H3.out]⟩))⟩)
      clear HZ HZN
      subst h5
      go_wp2_with fail
      go_ret
      exact ⟨_, rfl, HB.out, isX rfl HG.out⟩
    · have HNO : Hid (¬ GoodX (.mk 5 l s f e ee kids)) := Lib.hid (by
        rw [goodX_one (by decide)]
        rintro ⟨_, _, _, x4⟩
        rcases x4 with ⟨h, _⟩ | ⟨h, _⟩ | ⟨_, _, h⟩ | ⟨h, _⟩
        · omega
        · omega
        · have hZ := HZ.out rfl
          rw [← hZ.2, ← H3.out] at h; exact h5 h
        · omega)
      have h5' : (z == (n3 : Int)) = false := beq_eq_false_iff_ne.2 h5
      clear HZ HZN h5
      go_wp2_with fail
      go_ret
      exact ⟨_, rfl, HB.out, notX rfl HNO.out⟩

set_option maxRecDepth 100000 in
set_option maxHeartbeats 2000000 in
theorem good6 (k l s : Int) (f : List Nat) (e : List Int) (ee : List (List Int)) (kids : List Gm) (hk7 : k ≠ 7) (hk : k = 6) (hok : f.length % (stride l).toNat = 0 ∧ kids = [] ∧ (ee = [] ∨ k = 6)) (hL : Lay (.mk k l s f e ee kids)) (hw : ∀ x ∈ e, x ≤ 9223372036854775807) (hw2 : ∀ es ∈ ee, ∀ x ∈ es, x ≤ 9223372036854775807) : GAns (.mk k l s f e ee kids) := by
  subst hk
  intro w B cs h hB
  obtain ⟨s', a3, p3, a4, p4, a5, p5, a6, p6, hcs⟩ := arep_lit h
  simp only [Gm.kind, Gm.layout, Gm.flat, Gm.ends, Gm.endss, Gm.kids] at hcs
  rw [hcs] at h ⊢
  rw [arep_eq] at h
  obtain ⟨vf, ve, vee, vk, e1, hrf, hre, ⟨vs, hrs, hvl, hvi⟩, _⟩ := h
  simp only [List.cons.injEq, and_true] at e1
  obtain ⟨_, _, _, e4, e5, e6, _⟩ := e1
  subst e4 e5 e6
  have hL' := (lay_eq ..).1 hL
  have hl1 := hL'.1 hk7
  have hsb := stride_bd l hl1 hL'.2.2.1
  obtain ⟨st, hst⟩ : ∃ st, st = (stride l).toNat := ⟨_, rfl⟩
  rw [← hst] at hsb
  have HST : Hid (∀ w, Calls Tryz.prog 13 #[.int .i64 l] w fun e w' => e = .returned (.int .i64 (st : Nat)) ∧ w = w') := Lib.hid (by intro w; rw [← hsb.1]; exact specStride l hL'.2.1 w)
  have hs1 := hsb.2.1
  have hs2 := hsb.2.2
  have hs0 : ((st : Int) == 0) = false := beq_eq_false_iff_ne.2 (by omega)
  obtain ⟨n3, hn3⟩ : ∃ n, n = f.length := ⟨_, rfl⟩
  obtain ⟨n4, hn4⟩ : ∃ n, n = e.length := ⟨_, rfl⟩
  obtain ⟨n5, hn5⟩ : ∃ n, n = ee.length := ⟨_, rfl⟩
  obtain ⟨n6, hn6⟩ : ∃ n, n = kids.length := ⟨_, rfl⟩
  rw [← hn3, ← hn4, ← hn5, ← hn6]
  have hf9 : n3 ≤ 1000000000 := by
    obtain ⟨_, c, e, h1, h2, _⟩ := hrf
    rw [List.length_map] at h1 h2; omega
  obtain ⟨W1, hW1⟩ : ∃ W1, W1 = w.alloc (.cells #[.int .i64 6, .int .i64 l, .int .i64 s', .slice a3 n3 p3, .slice a4 n4 p4, .slice a5 n5 p5, .slice a6 n6 p6] 27) := ⟨_, rfl⟩
  have hbw : Below w.heap.size w W1 := by rw [hW1]; exact (Below.refl _ _).alloc (Nat.le_refl _) _
  have hbx : Box W1 w.heap.size 6 l s' (.slice a3 n3 p3) (.slice a4 n4 p4) (.slice a5 n5 p5) (.slice a6 n6 p6) := by unfold Box; rw [hW1]; exact heap_alloc_new w _
  have HRE : Hid (Row W1 B (.slice a4 n4 p4) (e.map iv)) := Lib.hid (by rw [hn4]; exact hre.below (hbw.mono hB))
  have HRS : Hid (Row W1 B (.slice a5 n5 p5) vs) := Lib.hid (by rw [hn5]; exact hrs.below (hbw.mono hB))
  have HVI : Hid (∀ (i : Nat) (x : Value) (es : List Int), vs[i]? = some x → ee[i]? = some es → Row W1 B x (es.map iv)) := Lib.hid (fun i x es hx he => (hvi i x es hx he).below (hbw.mono hB))
  have HVL := Lib.hid hvl
  have q0 := hbx.c0
  have q1 := hbx.c1
  have q3 := hbx.c3
  have q4 := hbx.c4
  have q5 := hbx.c5
  have q6 := hbx.c6
  obtain ⟨b1, hb1⟩ : ∃ b1, b1 = w.heap.size := ⟨_, rfl⟩
  rw [← hb1] at q0 q1 q3 q4 q5 q6
  have HB := Lib.hid hbw
  have H3 := Lib.hid hn3
  have H4 := Lib.hid hn4
  have H5 := Lib.hid hn5
  have H6 := Lib.hid hn6
  have HS := Lib.hid hst
  have HLL := Lib.hid hL'
  have HW := Lib.hid hw
  have HW2 := Lib.hid hw2
  have hrem : (n3 : Int).tmod (st : Int) = ((n3 % st : Nat) : Int) := rfl
  obtain ⟨r, hr⟩ : ∃ r, r = n3 % st := ⟨_, rfl⟩
  rw [← hr] at hrem
  have HR := Lib.hid hr
  clear hcs hrf hre hrs hvl hvi hL hL' hl1 hsb hst hn3 hn4 hn5 hn6 hbx hbw hw hw2 hr
  have h0 : r = 0 := by rw [HR.out, H3.out, HS.out]; exact hok.1
  have h1 : n6 = 0 := by rw [H6.out, hok.2.1]; rfl
  have HDIV := Lib.hid hok.1
  have HK := Lib.hid hok.2.1
  have HEE := Lib.hid hok.2.2
  have hs9 : n5 ≤ 1000000000 := by
    obtain ⟨_, c, e, h1, h2, _⟩ := HRS.out
    rw [HVL.out, ← H5.out] at h1 h2; omega
  clear hok hk7 HRE
  subst h0 h1
  by_cases h2 : n5 = 0
  · subst h2
    go_enter Tryz.func10, Tryz.ntmps10
    go_wp2_with fail
    rw [← hW1, ← hb1]
    clear hW1 hb1
    refine (HST.out W1).mono ?_
    rintro en w' ⟨rfl, rfl⟩
    go_wp2_with fail
    go_loopg [8, 9, 135] 0 (fun g v8 v9 v135 wr => ∃ (j : Nat) (z : Int) (ok : Bool), j + g = 0 ∧ v135 = .int .i64 j ∧ v8 = .int .i64 z ∧ v9 = .bool ok ∧ W1 = wr ∧ 0 ≤ z ∧ z ≤ 9223372036854775807 ∧ Hid (ok = true → z = tJ ee j ∧ ∀ i (hi : i < ee.length), i < j → EndsOk st false (tJ ee i) ee[i]) ∧ Hid (ok = false → ¬ ∀ i (hi : i < ee.length), EndsOk st false (tJ ee i) ee[i]))
    case atStart => exact ⟨0, 0, true, by omega, rfl, rfl, rfl, rfl, by decide, by decide, Lib.hid (fun _ => ⟨by simp [tJ], fun i hi h => absurd h (Nat.not_lt_zero _)⟩), Lib.hid (fun h => by cases h)⟩
    case round =>
      obtain ⟨j, z, ok, hj, rfl, rfl, rfl, rfl, hz0, hz1, HZ, HZN⟩ := hrel
      by_cases hjN : j < 0
      · omega
      · obtain rfl : j = 0 := by omega
        cases ok with
        | false =>
          have HNO : Hid (¬ GoodX (.mk 6 l s f e ee kids)) := Lib.hid (by
            rw [goodX_one (by decide)]
            rintro ⟨_, _, _, x4⟩
            rcases x4 with ⟨h, _⟩ | ⟨h, _⟩ | ⟨h, _⟩ | ⟨_, h1, h2, h3⟩
            · omega
            · omega
            · omega
            · rw [← HS.out] at h1; exact HZN.out (by trivial) h1)
          clear HZ HZN
          go_wp2_with fail
          go_ret
          exact ⟨_, rfl, HB.out, notX rfl HNO.out⟩
        | true =>
          have HZT : Hid (z = tJ ee ee.length ∧ ∀ i (hi : i < ee.length), EndsOk st false (tJ ee i) ee[i]) := Lib.hid (by
            have hZ := HZ.out (by trivial)
            exact ⟨by rw [hZ.1, ← H5.out], fun i hi => hZ.2 i hi (by have := H5.out; omega)⟩)
          by_cases h5 : z = (n3 : Int)
          · by_cases h6 : n4 = 0
            · have HG : Hid (GoodX (.mk 6 l s f e ee kids)) := Lib.hid (by
                rw [goodX_one (by decide)]
                exact ⟨HDIV.out, HK.out, Or.inr rfl, Or.inr (Or.inr (Or.inr ⟨rfl, by rw [← HS.out]; exact HZT.out.2, by rw [← HZT.out.1, h5, H3.out], List.length_eq_zero_iff.1 (by rw [← H4.out]; exact h6)⟩))⟩)
              clear HZ HZN HZT
              subst h5 h6
              go_wp2_with fail
              go_ret
              exact ⟨_, rfl, HB.out, isX rfl HG.out⟩
            · have HNO : Hid (¬ GoodX (.mk 6 l s f e ee kids)) := Lib.hid (by
                rw [goodX_one (by decide)]
                rintro ⟨_, _, _, x4⟩
                rcases x4 with ⟨h, _⟩ | ⟨h, _⟩ | ⟨h, _⟩ | ⟨_, h1, h2, h3⟩
                · omega
                · omega
                · omega
                · rw [h3] at H4; exact h6 H4.out)
              have h6' : ((n4 : Int) == 0) = false := beq_eq_false_iff_ne.2 (by omega)
              clear HZ HZN HZT h6
              subst h5
              go_wp2_with fail
              go_ret
              exact ⟨_, rfl, HB.out, notX rfl HNO.out⟩
          · have HNO : Hid (¬ GoodX (.mk 6 l s f e ee kids)) := Lib.hid (by
              rw [goodX_one (by decide)]
              rintro ⟨_, _, _, x4⟩
              rcases x4 with ⟨h, _⟩ | ⟨h, _⟩ | ⟨h, _⟩ | ⟨_, h1, h2, h3⟩
              · omega
              · omega
              · omega
              · rw [← HZT.out.1, ← H3.out] at h2; exact h5 h2)
            have h5' : (z == (n3 : Int)) = false := beq_eq_false_iff_ne.2 h5
            clear HZ HZN HZT h5
            go_wp2_with fail
            go_ret
            exact ⟨_, rfl, HB.out, notX rfl HNO.out⟩
  · have h2' : 0 < n5 := by omega
    clear h2
    go_enter Tryz.func10, Tryz.ntmps10
    go_wp2_with fail
    rw [← hW1, ← hb1]
    clear hW1 hb1
    refine (HST.out W1).mono ?_
    rintro en w' ⟨rfl, rfl⟩
    go_wp2_with fail
    go_loopg [8, 9, 135] n5 (fun g v8 v9 v135 wr => ∃ (j : Nat) (z : Int) (ok : Bool), j + g = n5 ∧ v135 = .int .i64 j ∧ v8 = .int .i64 z ∧ v9 = .bool ok ∧ W1 = wr ∧ 0 ≤ z ∧ z ≤ 9223372036854775807 ∧ Hid (ok = true → z = tJ ee j ∧ ∀ i (hi : i < ee.length), i < j → EndsOk st false (tJ ee i) ee[i]) ∧ Hid (ok = false → ¬ ∀ i (hi : i < ee.length), EndsOk st false (tJ ee i) ee[i]))
    case atStart => exact ⟨0, 0, true, by omega, rfl, rfl, rfl, rfl, by decide, by decide, Lib.hid (fun _ => ⟨by simp [tJ], fun i hi h => absurd h (Nat.not_lt_zero _)⟩), Lib.hid (fun h => by cases h)⟩
    case round =>
      obtain ⟨j, z, ok, hj, rfl, rfl, rfl, rfl, hz0, hz1, HZ, HZN⟩ := hrel
      by_cases hjN : j < n5
      · obtain ⟨eb, eo, ha5, hebB, hcel⟩ : ∃ eb eo, a5 = some ⟨eb, eo, none⟩ ∧ eb < B ∧ ∀ j u, vs[j]? = some u → W1.cell? ⟨eb, eo + j, none⟩ = some u := by
          obtain ⟨_, c, e, h1, h2, h3, h4⟩ := HRS.out
          injection e with e _ _
          subst e
          exact h4 (by intro h; have := HVL.out; rw [h] at this; simp at this; have := H5.out; rw [← this.symm] at *; simp_all)
        subst ha5
        have hje : j < ee.length := by rw [← H5.out]; exact hjN
        obtain ⟨x, hx⟩ : ∃ x, vs[j]? = some x := ⟨_, List.getElem?_eq_getElem (by rw [HVL.out]; exact hje)⟩
        have hcx := hcel j x hx
        have hrow := HVI.out j x ee[j] hx (List.getElem?_eq_getElem hje)
        obtain ⟨xa, xc, hxl⟩ := hrow.lit
        obtain ⟨nx, hnx⟩ : ∃ nx, nx = (ee[j].map iv).length := ⟨_, rfl⟩
        rw [← hnx] at hxl
        have HGE := Lib.hid (goodEnds ee[j] z st false B x W1 hrow hz0 hz1 hs1 hs2 (HW2.out _ (List.getElem_mem hje)))
        clear hnx hrow hx hcel
        subst hxl
        go_wp2_with fail
        refine HGE.out.mono ?_
        rintro en w' ⟨rfl, z', ok', rfl, hz0', hz1', hz', hzn'⟩
        have HZN' : Hid (ok = true → ok' = false → ¬ ∀ i (hi : i < ee.length), EndsOk st false (tJ ee i) ee[i]) := Lib.hid (by
          intro h1 h2 h
          have h3 := (HZ.out h1).1
          exact hzn' h2 (by rw [h3]; exact h j hje))
        have HZ' : Hid (ok = true → ok' = true → z' = tJ ee (j + 1) ∧ ∀ i (hi : i < ee.length), i < j + 1 → EndsOk st false (tJ ee i) ee[i]) := Lib.hid (by
          intro h1 h2
          obtain ⟨g1, g2⟩ := hz' h2
          obtain ⟨g3, g4⟩ := HZ.out h1
          refine ⟨by rw [g2, tJ_succ ee j hje, ← g3], fun i hi h => ?_⟩
          rcases Nat.lt_succ_iff_lt_or_eq.1 h with h | h
          · exact g4 i hi h
          · subst h; rw [← g3]; exact g1)
        clear HGE hz' hzn' hje
        cases ok with
        | false =>
          go_wp2_with fail
          go_roundg (gk - 1)
          case measure => omega
          case rel => exact ⟨j + 1, z', false, by omega, by go_num, rfl, rfl, rfl, hz0', hz1', Lib.hid (fun h => by cases h), Lib.hid (fun _ => HZN.out (by trivial))⟩
        | true =>
          cases ok' with
          | false =>
            go_wp2_with fail
            go_roundg (gk - 1)
            case measure => omega
            case rel => exact ⟨j + 1, z', false, by omega, by go_num, rfl, rfl, rfl, hz0', hz1', Lib.hid (fun h => by cases h), Lib.hid (fun _ => HZN'.out (by trivial) (by trivial))⟩
          | true =>
            go_wp2_with fail
            go_roundg (gk - 1)
            case measure => omega
            case rel => exact ⟨j + 1, z', true, by omega, by go_num, rfl, rfl, rfl, hz0', hz1', Lib.hid (fun _ => HZ'.out (by trivial) (by trivial)), Lib.hid (fun h => by cases h)⟩
      · obtain rfl : j = n5 := by omega
        cases ok with
        | false =>
          have HNO : Hid (¬ GoodX (.mk 6 l s f e ee kids)) := Lib.hid (by
            rw [goodX_one (by decide)]
            rintro ⟨_, _, _, x4⟩
            rcases x4 with ⟨h, _⟩ | ⟨h, _⟩ | ⟨h, _⟩ | ⟨_, h1, h2, h3⟩
            · omega
            · omega
            · omega
            · rw [← HS.out] at h1; exact HZN.out (by trivial) h1)
          clear HZ HZN
          go_wp2_with fail
          go_ret
          exact ⟨_, rfl, HB.out, notX rfl HNO.out⟩
        | true =>
          have HZT : Hid (z = tJ ee ee.length ∧ ∀ i (hi : i < ee.length), EndsOk st false (tJ ee i) ee[i]) := Lib.hid (by
            have hZ := HZ.out (by trivial)
            exact ⟨by rw [hZ.1, ← H5.out], fun i hi => hZ.2 i hi (by have := H5.out; omega)⟩)
          by_cases h5 : z = (n3 : Int)
          · by_cases h6 : n4 = 0
            · have HG : Hid (GoodX (.mk 6 l s f e ee kids)) := Lib.hid (by
                rw [goodX_one (by decide)]
                exact ⟨HDIV.out, HK.out, Or.inr rfl, Or.inr (Or.inr (Or.inr ⟨rfl, by rw [← HS.out]; exact HZT.out.2, by rw [← HZT.out.1, h5, H3.out], List.length_eq_zero_iff.1 (by rw [← H4.out]; exact h6)⟩))⟩)
              clear HZ HZN HZT
              subst h5 h6
              go_wp2_with fail
              go_ret
              exact ⟨_, rfl, HB.out, isX rfl HG.out⟩
            · have HNO : Hid (¬ GoodX (.mk 6 l s f e ee kids)) := Lib.hid (by
                rw [goodX_one (by decide)]
                rintro ⟨_, _, _, x4⟩
                rcases x4 with ⟨h, _⟩ | ⟨h, _⟩ | ⟨h, _⟩ | ⟨_, h1, h2, h3⟩
                · omega
                · omega
                · omega
                · rw [h3] at H4; exact h6 H4.out)
              have h6' : ((n4 : Int) == 0) = false := beq_eq_false_iff_ne.2 (by omega)
              clear HZ HZN HZT h6
              subst h5
              go_wp2_with fail
              go_ret
              exact ⟨_, rfl, HB.out, notX rfl HNO.out⟩
          · have HNO : Hid (¬ GoodX (.mk 6 l s f e ee kids)) := Lib.hid (by
              rw [goodX_one (by decide)]
              rintro ⟨_, _, _, x4⟩
              rcases x4 with ⟨h, _⟩ | ⟨h, _⟩ | ⟨h, _⟩ | ⟨_, h1, h2, h3⟩
              · omega
              · omega
              · omega
              · rw [← HZT.out.1, ← H3.out] at h2; exact h5 h2)
            have h5' : (z == (n3 : Int)) = false := beq_eq_false_iff_ne.2 h5
            clear HZ HZN HZT h5
            go_wp2_with fail
            go_ret
            exact ⟨_, rfl, HB.out, notX rfl HNO.out⟩
end Go.Proofs.YtlmilelopajdiaaGreatDoor
