/-
  The statement's side: a round over the kids; the layout of a geometry.
-/
import Derived.Test.YtlmilelopajdiaaGreatDoorUH0
import Derived.Test.YtlmilelopajdiaaGreatDoorUG2
namespace Go.Proofs.YtlmilelopajdiaaGreatDoor
open Go.RowKit

theorem arep_lit {w : World} {B : Nat} {g : Gm} {cs : List Value} (h : ARep w B g cs) : ∃ s a3 p3 a4 p4 a5 p5 a6 p6, cs = [.int .i64 g.kind, .int .i64 g.layout, .int .i64 s, .slice a3 g.flat.length p3, .slice a4 g.ends.length p4, .slice a5 g.endss.length p5, .slice a6 g.kids.length p6] := by
  cases g
  rw [arep_eq] at h
  obtain ⟨vf, ve, vee, vk, e, hf, he, ⟨vs, hvs, hl, _⟩, css', hrk, hcl, _⟩ := h
  obtain ⟨a3, p3, h3⟩ := hf.lit
  obtain ⟨a4, p4, h4⟩ := he.lit
  obtain ⟨a5, p5, h5⟩ := hvs.lit
  obtain ⟨a6, p6, h6⟩ := hrk.lit
  rw [List.length_map] at h3 h4
  rw [hl] at h5
  rw [hcl] at h6
  exact ⟨_, a3, p3, a4, p4, a5, p5, a6, p6, by rw [e, h3, h4, h5, h6]; rfl⟩
theorem kid_round {w wr : World} {B N ck j : Nat} {ak : Option Addr} {css : List (List Value)} {kids : List Gm} (hrk : RowK w B (.slice ak N ck) css) (hcl : css.length = kids.length) (hkid : ∀ (i : Nat) c g, kids[i]? = some g → css[i]? = some c → ARep w B g c) (hN : N = css.length) (hj : j < N) (hwr : Below B w wr) (hB : B ≤ wr.heap.size) :
    ∃ g kb ko k l s a3 n3 p3 a4 n4 p4 a5 n5 p5 a6 n6 p6, kids[j]? = some g ∧ ak = some ⟨kb, ko, none⟩ ∧ kb < B ∧ wr.cell? ⟨kb, ko + j * 7, none⟩ = some (.int .i64 k) ∧ wr.cell? ⟨kb, ko + j * 7 + 1, none⟩ = some (.int .i64 l) ∧ wr.cell? ⟨kb, ko + j * 7 + 2, none⟩ = some (.int .i64 s) ∧
      wr.cell? ⟨kb, ko + j * 7 + 3, none⟩ = some (.slice a3 n3 p3) ∧ wr.cell? ⟨kb, ko + j * 7 + 4, none⟩ = some (.slice a4 n4 p4) ∧ wr.cell? ⟨kb, ko + j * 7 + 5, none⟩ = some (.slice a5 n5 p5) ∧ wr.cell? ⟨kb, ko + j * 7 + 6, none⟩ = some (.slice a6 n6 p6) ∧
      Hid (ARep wr wr.heap.size g [.int .i64 k, .int .i64 l, .int .i64 s, .slice a3 n3 p3, .slice a4 n4 p4, .slice a5 n5 p5, .slice a6 n6 p6]) ∧ Hid (k = g.kind ∧ l = g.layout ∧ n3 = g.flat.length ∧ n4 = g.ends.length ∧ n5 = g.endss.length ∧ n6 = g.kids.length) := by
  obtain ⟨a', c', e1, _, _, _, e5⟩ := hrk
  obtain ⟨kb, ko, hak, hkB, hcell⟩ := e5 (by intro h; rw [h] at hN; simp at hN; omega)
  injection e1 with e1 _ _
  subst e1
  obtain ⟨g, hg⟩ : ∃ g, kids[j]? = some g := ⟨_, List.getElem?_eq_getElem (by omega)⟩
  obtain ⟨cj, hcj⟩ : ∃ cj, css[j]? = some cj := ⟨_, List.getElem?_eq_getElem (by omega)⟩
  have har := hkid j cj g hg hcj
  obtain ⟨s, a3, p3, a4, p4, a5, p5, a6, p6, e⟩ := arep_lit har
  have hc : ∀ i u, cj[i]? = some u → wr.cell? ⟨kb, ko + j * 7 + i, none⟩ = some u := fun i u hu => by rw [hwr.cell (show kb < B from hkB)]; exact hcell j cj hcj i u hu
  rw [e] at hc
  have har' := ARep.below hwr hB g cj har
  rw [e] at har'
  exact ⟨g, kb, ko, g.kind, g.layout, s, a3, _, p3, a4, _, p4, a5, _, p5, a6, _, p6, hg, hak, hkB, hc 0 _ rfl, hc 1 _ rfl, hc 2 _ rfl, hc 3 _ rfl, hc 4 _ rfl, hc 5 _ rfl, hc 6 _ rfl, Lib.hid har', Lib.hid ⟨rfl, rfl, rfl, rfl, rfl, rfl⟩⟩

theorem rowK_len {w : World} {B N ck : Nat} {ak : Option Addr} {css : List (List Value)} (h : RowK w B (.slice ak N ck) css) : N ≤ 1000000000 := by
  obtain ⟨a', c', e1, e2, e3, _⟩ := h
  injection e1 with _ e4 e5
  omega
/-- Layouts from 1 (a collection's from 0) to 9, all through. -/
def Lay : Gm → Prop
  | .mk k l _ _ _ _ kids => (k ≠ 7 → 1 ≤ l) ∧ 0 ≤ l ∧ l ≤ 9 ∧ ∀ g (_h : g ∈ kids), Lay g
termination_by g => SizeOf.sizeOf g
decreasing_by
  have := List.sizeOf_lt_of_mem _h
  simp only [Gm.mk.sizeOf_spec]
  omega
theorem lay_eq (k l s : Int) (f : List Nat) (e : List Int) (ee : List (List Int)) (kids : List Gm) : Lay (.mk k l s f e ee kids) ↔ (k ≠ 7 → 1 ≤ l) ∧ 0 ≤ l ∧ l ≤ 9 ∧ ∀ g, g ∈ kids → Lay g := by
  rw [Lay]
theorem lay_bd : ∀ g, Lay g → 0 ≤ layoutT g ∧ layoutT g ≤ 9 := by
  intro g
  induction g using Gm.ind with
  | h k l s f e ee kids ih =>
    intro h
    rw [lay_eq] at h
    rw [layoutT_eq]
    split
    · have := cover_fold layoutT kids 0 (by omega) (by omega) (fun x hx => ih x hx (h.2.2.2 x hx))
      exact ⟨this.1, this.2.1⟩
    · exact ⟨h.2.1, h.2.2.1⟩
def LAns (g : Gm) : Prop := ∀ (w : World) (B : Nat) (cs : List Value), ARep w B g cs → B ≤ w.heap.size → Calls Tryz.prog 11 #[.agg cs.toArray] w fun e w' => e = .returned (.int .i64 (layoutT g)) ∧ Below w.heap.size w w'

set_option maxRecDepth 100000 in
set_option maxHeartbeats 4000000 in
theorem layOfStep (k l s : Int) (f : List Nat) (e : List Int) (ee : List (List Int)) (kids : List Gm) (hL : Lay (.mk k l s f e ee kids)) (ih : ∀ g, g ∈ kids → LAns g) : LAns (.mk k l s f e ee kids) := by
  intro w B cs h hB
  obtain ⟨s', a3, p3, a4, p4, a5, p5, a6, p6, hcs⟩ := arep_lit h
  simp only [Gm.kind, Gm.layout, Gm.flat, Gm.ends, Gm.endss, Gm.kids] at hcs
  rw [hcs] at h ⊢
  rw [arep_eq] at h
  obtain ⟨vf, ve, vee, vk, e1, _, _, _, css, hrk, hcl, hkid⟩ := h
  simp only [List.cons.injEq, and_true] at e1
  obtain ⟨_, _, _, _, _, _, e7⟩ := e1
  subst e7
  rw [layoutT_eq]
  have hL' := (lay_eq ..).1 hL
  obtain ⟨n3, hn3⟩ : ∃ n, n = f.length := ⟨_, rfl⟩
  obtain ⟨n4, hn4⟩ : ∃ n, n = e.length := ⟨_, rfl⟩
  obtain ⟨n5, hn5⟩ : ∃ n, n = ee.length := ⟨_, rfl⟩
  obtain ⟨N, hN⟩ : ∃ n, n = kids.length := ⟨_, rfl⟩
  rw [← hn3, ← hn4, ← hn5, ← hN]
  rw [← hN] at hrk hcl
  have hNb := rowK_len hrk
  by_cases h7 : k = 7 ∧ l = 0
  · obtain ⟨rfl, rfl⟩ := h7
    rw [if_pos ⟨rfl, rfl⟩]
    have HRK := Lib.hid hrk
    have HCL := Lib.hid hcl
    have HKI := Lib.hid hkid
    have HIH := Lib.hid ih
    have HLB := Lib.hid (fun g hg => lay_bd g (hL'.2.2.2 g hg))
    have HNK := Lib.hid hN
    have hb0 : Below w.heap.size w (w.alloc (.cells #[.int .i64 7, .int .i64 0, .int .i64 s', .slice a3 n3 p3, .slice a4 n4 p4, .slice a5 n5 p5, .slice a6 N p6] 27)) := (Below.refl _ _).alloc (Nat.le_refl _) _
    have HB0 := Lib.hid hb0
    clear hrk hcl hkid ih hL hL' hn3 hn4 hn5 hN hcs hb0
    go_enter Tryz.func11, Tryz.ntmps11
    go_wp2_with fail
    go_loopg [3, 19] N (fun g v3 v19 wr => ∃ (j : Nat) (m : Int), j + g = N ∧ v19 = .int .i64 j ∧ v3 = .int .i64 m ∧ 0 ≤ m ∧ m ≤ 9 ∧ Hid (m = (kids.take j).foldl (fun m g => cover m (layoutT g)) 0) ∧ Hid (Below w.heap.size w wr))
    case atStart => exact ⟨0, 0, by omega, rfl, rfl, by omega, by omega, Lib.hid (by simp), HB0⟩
    case round =>
      obtain ⟨j, m, hj, rfl, rfl, hm0, hm9, Hm, HBr⟩ := hrel
      by_cases hjN : j < N
      · obtain ⟨g, kb, ko, gk', gl, gs, b3, m3, q3, b4, m4, q4, b5, m5, q5, b6, m6, q6, hg, rfl, hkB, d0, d1, d2, d3, d4, d5, d6, HAR, _⟩ := kid_round HRK.out (by rw [HCL.out, HNK.out]) HKI.out HCL.out.symm hjN (HBr.out.mono hB) (by have := HBr.out.size; omega)
        have hgm := List.mem_of_getElem? hg
        have hgb := HLB.out g hgm
        obtain ⟨L, hL⟩ : ∃ L, L = layoutT g := ⟨_, rfl⟩
        rw [← hL] at hgb
        have HM : Hid (∀ w4, Below wr.heap.size wr w4 → Calls Tryz.prog 11 #[.agg #[.int .i64 gk', .int .i64 gl, .int .i64 gs, .slice b3 m3 q3, .slice b4 m4 q4, .slice b5 m5 q5, .slice b6 m6 q6]] w4 fun e w5 => e = .returned (.int .i64 L) ∧ Below w4.heap.size w4 w5) := Lib.hid (by
          intro w4 hb
          rw [hL]
          exact HIH.out g hgm w4 wr.heap.size _ (ARep.below hb (Nat.le_refl _) g _ HAR.out) hb.size)
        have HX : Hid (cover m L = (kids.take (j + 1)).foldl (fun m g => cover m (layoutT g)) 0) := Lib.hid (by
          have hjk : j < kids.length := by rw [← HNK.out]; exact hjN
          rw [foldl_snoc kids j hjk, ← Hm.out, hL]
          rw [List.getElem?_eq_getElem hjk] at hg
          injection hg with hg
          rw [hg])
        have hcb := cover_bd m L hm0 hgb.1 hm9 hgb.2
        have HCV := Lib.hid (specCover m L hm0 hm9 hgb.1 hgb.2)
        have hgb1 := hgb.1
        have hgb2 := hgb.2
        have hb4 : Below wr.heap.size wr (wr.alloc (.cells #[.int .i64 gk', .int .i64 gl, .int .i64 gs, .slice b3 m3 q3, .slice b4 m4 q4, .slice b5 m5 q5, .slice b6 m6 q6] 27)) := (Below.refl _ _).alloc (Nat.le_refl _) _
        have HB4 := Lib.hid hb4
        have HCB := Lib.hid hcb
        clear hgm hg hL hgb HAR Hm hb4 hcb
        go_wp2_with fail
        refine (HM.out _ HB4.out).mono ?_
        rintro en w5 ⟨rfl, hb5⟩
        have HB5 := Lib.hid (HBr.out.trans ((HB4.out.trans (hb5.mono HB4.out.size)).mono HBr.out.size))
        clear hb5 HM HB4
        go_wp2_with fail
        refine (HCV.out w5).mono ?_
        rintro en w6 ⟨rfl, rfl⟩
        go_wp2_with fail
        go_roundg (gk - 1)
        case measure => omega
        case rel => exact ⟨j + 1, _, by omega, by go_num, rfl, HCB.out.1, HCB.out.2.1, HX, HB5⟩
      · obtain rfl : j = N := by omega
        have HE : Hid (m = kids.foldl (fun m g => cover m (layoutT g)) 0) := Lib.hid (by rw [Hm.out, HNK.out, List.take_length])
        clear Hm
        go_wp2_with fail
        go_ret
        exact ⟨by rw [← HE.out]; rfl, HBr.out⟩
  · rw [if_neg h7]
    by_cases hk7 : k = 7
    · subst hk7
      have hl : (l != 0) = true := bne_iff_ne.2 (fun h => h7 ⟨rfl, h⟩)
      clear hrk hcl hkid ih hL hL' hn3 hn4 hn5 hN hcs h7
      go_enter Tryz.func11, Tryz.ntmps11
      go_wp2_with fail
      go_ret
      exact ⟨rfl, (Below.refl _ _).alloc (Nat.le_refl _) _⟩
    · have hk : (k != 7) = true := bne_iff_ne.2 hk7
      clear hrk hcl hkid ih hL hL' hn3 hn4 hn5 hN hcs h7 hk7
      go_enter Tryz.func11, Tryz.ntmps11
      go_wp2_with fail
      go_ret
      exact ⟨rfl, (Below.refl _ _).alloc (Nat.le_refl _) _⟩
theorem layOf : ∀ g, Lay g → LAns g := by
  intro g
  induction g using Gm.ind with
  | h k l s f e ee kids ih =>
    intro h
    exact layOfStep k l s f e ee kids h fun g hg => ih g hg (((lay_eq ..).1 h).2.2.2 g hg)
end Go.Proofs.YtlmilelopajdiaaGreatDoor

/-
  The statement's side: goodEnds.
-/
namespace Go.Proofs.YtlmilelopajdiaaGreatDoor
open Go.RowKit

/-- Where part k begins. -/
def prevE (a : Int) (es : List Int) (k : Nat) : Int := if k = 0 then a else es.getD (k - 1) 0
/-- The ends ascend in strides. -/
def EndsOk (st : Nat) (sg : Bool) (a : Int) (es : List Int) : Prop := ∀ k, k < es.length → prevE a es k ≤ es.getD k 0 ∧ (es.getD k 0 - prevE a es k) % (st : Int) = 0 ∧ (sg = true → es.getD k 0 - prevE a es k ≤ st)

/-- What goodEnds answers. -/
def GEAns (es : List Int) (a : Int) (st : Nat) (sg : Bool) (w : World) (e : Ending) (w' : World) : Prop := w = w' ∧ ∃ z ok, e = .returned (.tuple #[.int .i64 z, .bool ok]) ∧ 0 ≤ z ∧ z ≤ 9223372036854775807 ∧ (ok = true → EndsOk st sg a es ∧ z = prevE a es es.length) ∧ (ok = false → ¬ EndsOk st sg a es)
set_option maxRecDepth 100000 in
set_option maxHeartbeats 2000000 in
theorem goodEnds (es : List Int) (a : Int) (st : Nat) (sg : Bool) (B : Nat) (v : Value) (w : World) (h : Row w B v (es.map iv)) (ha0 : 0 ≤ a) (ha1 : a ≤ 9223372036854775807) (hst : 1 ≤ st) (hst2 : st ≤ 1000) (hb : ∀ x ∈ es, x ≤ 9223372036854775807) :
    Calls Tryz.prog 21 #[v, .int .i64 a, .int .i64 (st : Nat), .bool sg] w fun e w' => GEAns es a st sg w e w' := by
  obtain ⟨ad, cap, rfl, hc, hc2, _, hcell⟩ := h
  have hl0 : (es.map iv).length = es.length := List.length_map ..
  rw [hl0] at hc hc2 ⊢
  obtain ⟨N, hN⟩ : ∃ N, N = es.length := ⟨_, rfl⟩
  have HN := Lib.hid hN
  rw [← hN] at hc hc2 ⊢
  obtain ⟨hN9, hc9⟩ := hc2
  by_cases hz : N = 0
  · have he : es = [] := List.length_eq_zero_iff.1 (by omega)
    have HE := Lib.hid he
    clear hcell hl0 hb hN he
    subst hz
    go_enter Tryz.func21, Tryz.ntmps21
    go_wp2_with fail
    go_loopg [1, 14] 0 (fun g v1 v14 wr => v1 = .int .i64 a ∧ v14 = .int .i64 0 ∧ w = wr)
    case atStart => exact ⟨rfl, rfl, rfl⟩
    case round =>
      obtain ⟨rfl, rfl, rfl⟩ := hrel
      go_wp2_with fail
      go_ret2
      refine ⟨rfl, a, true, rfl, ha0, ha1, fun _ => ⟨fun k hk => ?_, by rw [HE.out]; rfl⟩, fun h => by cases h⟩
      rw [HE.out] at hk
      exact absurd hk (Nat.not_lt_zero _)
  · obtain ⟨b, o, rfl, hbB, hce⟩ := hcell (by intro h; rw [h] at hl0; simp at hl0; omega)
    have HC : Hid (∀ k, k < N → ∃ x, es.getD k 0 = x ∧ x ≤ 9223372036854775807 ∧ w.cell? ⟨b, o + k, none⟩ = some (.int .i64 x)) := Lib.hid (by
      intro k hk
      rw [hN] at hk
      refine ⟨es[k], by rw [List.getD, List.getElem?_eq_getElem hk]; rfl, hb _ (List.getElem_mem hk), hce k _ (by rw [List.getElem?_map, List.getElem?_eq_getElem hk]; rfl)⟩)
    have HA := Lib.hid ha1
    clear hce hcell hl0 hb hN hz
    go_enter Tryz.func21, Tryz.ntmps21
    go_wp2_with fail
    go_loopg [1, 14] N (fun g v1 v14 wr => ∃ (k : Nat) (p : Int), k + g = N ∧ v1 = .int .i64 p ∧ v14 = .int .i64 k ∧ w = wr ∧ 0 ≤ p ∧ p ≤ 9223372036854775807 ∧ Hid (p = prevE a es k) ∧ Hid (∀ i, i < k → prevE a es i ≤ es.getD i 0 ∧ (es.getD i 0 - prevE a es i) % (st : Int) = 0 ∧ (sg = true → es.getD i 0 - prevE a es i ≤ st)))
    case atStart => exact ⟨0, a, by omega, rfl, rfl, rfl, ha0, ha1, Lib.hid (by unfold prevE; simp), Lib.hid (fun i hi => absurd hi (Nat.not_lt_zero _))⟩
    case round =>
      obtain ⟨k, p, hk, rfl, rfl, rfl, hp0, hp1, HP, HI⟩ := hrel
      by_cases hkN : k < N
      · obtain ⟨x, hx, hx1, hcx⟩ := HC.out k hkN
        have HX := Lib.hid hx
        clear hx
        by_cases h1 : x < p
        · have HNO : Hid (¬ EndsOk st sg a es) := Lib.hid (fun h => by
            have := (h k (by rw [← HN.out]; exact hkN)).1
            rw [HX.out, ← HP.out] at this
            omega)
          clear HX HC HN
          go_wp2_with fail
          go_ret2
          exact ⟨rfl, p, false, rfl, hp0, hp1, fun h => (by cases h), fun _ => HNO.out⟩
        · obtain ⟨d, hd⟩ : ∃ d : Nat, x - p = d := ⟨(x - p).toNat, by omega⟩
          have hrem : (d : Int).tmod (st : Int) = ((d % st : Nat) : Int) := rfl
          have hd1 : (d : Int) ≤ 9223372036854775807 := by omega
          obtain ⟨r, hr⟩ : ∃ r, r = d % st := ⟨_, rfl⟩
          rw [← hr] at hrem
          have HR := Lib.hid hr
          clear hr
          by_cases h2 : r = 0
          · subst h2
            by_cases h3 : sg = true ∧ (st : Int) < d
            · obtain ⟨rfl, h3⟩ := h3
              have HNO : Hid (¬ EndsOk st true a es) := Lib.hid (fun h => by
                have := (h k (by rw [← HN.out]; exact hkN)).2.2 rfl
                rw [HX.out, ← HP.out] at this
                omega)
              clear HX HC HN HR
              go_wp2_with fail
              go_ret2
              exact ⟨rfl, p, false, rfl, hp0, hp1, fun h => (by cases h), fun _ => HNO.out⟩
            · have HS : Hid (p ≤ x ∧ (x - p) % (st : Int) = 0 ∧ (sg = true → x - p ≤ st)) := Lib.hid ⟨by omega, by rw [hd]; have := HR.out; omega, fun h => by rw [hd]; exact Int.not_lt.1 (fun h4 => h3 ⟨h, h4⟩)⟩
              have HI' : Hid (∀ i, i < k + 1 → prevE a es i ≤ es.getD i 0 ∧ (es.getD i 0 - prevE a es i) % (st : Int) = 0 ∧ (sg = true → es.getD i 0 - prevE a es i ≤ st)) := Lib.hid (by
                intro i hi
                rcases Nat.lt_succ_iff_lt_or_eq.1 hi with h | h
                · exact HI.out i h
                · rw [h, HX.out, ← HP.out]; exact HS.out)
              have HP' : Hid (x = prevE a es (k + 1)) := Lib.hid (by unfold prevE; rw [if_neg (by omega)]; exact HX.out.symm)
              have hx0 : 0 ≤ x := by omega
              by_cases h4 : sg = true
              · have h5 : ¬ (st : Int) < d := fun h => h3 ⟨h4, h⟩
                clear h3 HX HC HN HR HI HP HS
                subst h4
                go_wp2_with fail
                go_roundg (gk - 1)
                case measure => omega
                case rel => exact ⟨k + 1, x, by omega, rfl, by go_num, rfl, hx0, hx1, HP', HI'⟩
              · have h5 : sg = false := by cases sg; rfl; exact absurd rfl h4
                clear h3 h4 HX HC HN HR HI HP HS
                subst h5
                go_wp2_with fail
                go_roundg (gk - 1)
                case measure => omega
                case rel => exact ⟨k + 1, x, by omega, rfl, by go_num, rfl, hx0, hx1, HP', HI'⟩
          · have h4 : ((r : Int) != 0) = true := by simp; omega
            have HNO : Hid (¬ EndsOk st sg a es) := Lib.hid (fun h => by
              have := (h k (by rw [← HN.out]; exact hkN)).2.1
              rw [HX.out, ← HP.out, hd] at this
              have h5 := HR.out
              omega)
            clear h2 HX HC HN HR
            go_wp2_with fail
            go_ret2
            exact ⟨rfl, p, false, rfl, hp0, hp1, fun h => (by cases h), fun _ => HNO.out⟩
      · obtain rfl : k = N := by omega
        clear HC
        go_wp2_with fail
        go_ret2
        exact ⟨rfl, p, true, rfl, hp0, hp1, fun _ => ⟨fun i hi => HI.out i (by rw [HN.out]; exact hi), by rw [HP.out, HN.out]⟩, fun h => by cases h⟩
end Go.Proofs.YtlmilelopajdiaaGreatDoor

/-
  What good ends give.
-/
namespace Go.Proofs.YtlmilelopajdiaaGreatDoor
open Go.RowKit

/-- Ends lie within the numbers. -/
def EIn : Gm → Prop
  | .mk k _ _ f e ee kids => (k = 3 ∨ k = 4 ∨ k = 5 → ∀ x ∈ e, 0 ≤ x ∧ x ≤ (f.length : Int)) ∧ (k = 6 → ∀ es ∈ ee, ∀ x ∈ es, 0 ≤ x ∧ x ≤ (f.length : Int)) ∧ ∀ g (_h : g ∈ kids), EIn g
termination_by g => SizeOf.sizeOf g
decreasing_by
  have := List.sizeOf_lt_of_mem _h
  simp only [Gm.mk.sizeOf_spec]
  omega
theorem ein_eq (k l s : Int) (f : List Nat) (e : List Int) (ee : List (List Int)) (kids : List Gm) : EIn (.mk k l s f e ee kids) ↔ (k = 3 ∨ k = 4 ∨ k = 5 → ∀ x ∈ e, 0 ≤ x ∧ x ≤ (f.length : Int)) ∧ (k = 6 → ∀ es ∈ ee, ∀ x ∈ es, 0 ≤ x ∧ x ≤ (f.length : Int)) ∧ ∀ g, g ∈ kids → EIn g := by
  rw [EIn]
theorem prev_succ (a : Int) (es : List Int) (k : Nat) : prevE a es (k + 1) = es.getD k 0 := by unfold prevE; rw [if_neg (by omega)]; rfl
theorem ends_mono {st : Nat} {sg : Bool} {a : Int} {es : List Int} (h : EndsOk st sg a es) (i j : Nat) (hij : i ≤ j) (hj : j ≤ es.length) : prevE a es i ≤ prevE a es j := by
  induction j with
  | zero => rw [Nat.le_zero.1 hij]; exact Int.le_refl _
  | succ j ih =>
    rcases Nat.lt_or_ge i (j + 1) with h1 | h1
    · have h2 := ih (by omega) (by omega)
      have h3 := (h j (by omega)).1
      rw [prev_succ]; omega
    · rw [show i = j + 1 by omega]; exact Int.le_refl _
theorem ends_in {st : Nat} {sg : Bool} {a : Int} {es : List Int} (h : EndsOk st sg a es) (k : Nat) (hk : k < es.length) : a ≤ prevE a es k ∧ prevE a es k ≤ es.getD k 0 ∧ es.getD k 0 ≤ prevE a es es.length := by
  have h1 := ends_mono h 0 k (by omega) (by omega)
  have h2 := ends_mono h (k + 1) es.length (by omega) (Nat.le_refl _)
  rw [prev_succ] at h2
  exact ⟨h1, (h k hk).1, h2⟩
theorem nats_getD (e : List Int) (x : Nat) : (nats e).getD x 0 = (e.getD x 0).toNat := by
  unfold nats
  rw [List.getD, List.getD, List.getElem?_map]
  cases e[x]? <;> rfl
theorem nats_len (e : List Int) : (nats e).length = e.length := by unfold nats; rw [List.length_map]
theorem stAt_prev (a : Int) (e : List Int) (x : Nat) : stAt a.toNat (nats e) x = (prevE a e x).toNat := by
  unfold stAt prevE
  split
  · rfl
  · rw [nats_getD]
theorem seg_div {st : Nat} {p q : Int} (h0 : 0 ≤ p) (h1 : p ≤ q) (h : (q - p) % (st : Int) = 0) : (q.toNat - p.toNat) % st = 0 := by
  obtain ⟨m, hm⟩ : ∃ m : Nat, p = m := ⟨p.toNat, by omega⟩
  obtain ⟨n, hn⟩ : ∃ n : Nat, q = n := ⟨q.toNat, by omega⟩
  subst hm hn
  rw [Int.toNat_natCast, Int.toNat_natCast]
  have : ((n : Int) - m) = ((n - m : Nat) : Int) := by omega
  rw [this] at h
  omega
theorem mem_getD {e : List Int} {x : Int} (h : x ∈ e) : ∃ k, k < e.length ∧ x = e.getD k 0 := by
  obtain ⟨k, hk, rfl⟩ := List.getElem_of_mem h
  exact ⟨k, hk, by rw [List.getD, List.getElem?_eq_getElem hk]; rfl⟩
/-- The ends of a polygon, of points or lines. -/
theorem fit_ends {st : Nat} {sg : Bool} {f : List Nat} {e : List Int} (h : EndsOk st sg 0 e) (hl : prevE 0 e e.length = (f.length : Int)) :
    (∀ x, x < (nats e).length → (nats e).getD x 0 ≤ f.length) ∧ (∀ x, x < (nats e).length → ((nats e).getD x 0 - stAt 0 (nats e) x) % st = 0) ∧ (e = [] → f = []) ∧ ∀ x ∈ e, 0 ≤ x ∧ x ≤ (f.length : Int) := by
  refine ⟨fun x hx => ?_, fun x hx => ?_, fun he => ?_, fun x hx => ?_⟩
  · rw [nats_len] at hx
    have := ends_in h x hx
    rw [nats_getD]; omega
  · rw [nats_len] at hx
    have h1 := ends_in h x hx
    have h2 := (h x hx).2.1
    rw [nats_getD, show stAt 0 (nats e) x = (prevE 0 e x).toNat from stAt_prev 0 e x]
    exact seg_div (by omega) h1.2.1 h2
  · subst he
    have : (0 : Int) = f.length := hl
    exact List.length_eq_zero_iff.1 (by omega)
  · obtain ⟨k, hk, rfl⟩ := mem_getD hx
    have := ends_in h k hk
    omega
/-- Where the numbers of area j begin. -/
def tJ (ee : List (List Int)) (j : Nat) : Int := (ee.take j).foldl (fun a es => prevE a es es.length) 0
theorem tJ_succ (ee : List (List Int)) (j : Nat) (hj : j < ee.length) : tJ ee (j + 1) = prevE (tJ ee j) ee[j] ee[j].length := by
  unfold tJ
  rw [List.take_add_one, List.getElem?_eq_getElem hj]
  show List.foldl _ 0 (ee.take j ++ [ee[j]]) = _
  rw [List.foldl_append]
  rfl
theorem tJ_mono {st : Nat} {ee : List (List Int)} (h : ∀ j (hj : j < ee.length), EndsOk st false (tJ ee j) ee[j]) (i j : Nat) (hij : i ≤ j) (hj : j ≤ ee.length) : tJ ee i ≤ tJ ee j := by
  induction j with
  | zero => rw [Nat.le_zero.1 hij]; exact Int.le_refl _
  | succ j ih =>
    rcases Nat.lt_or_ge i (j + 1) with h1 | h1
    · have h2 := ih (by omega) (by omega)
      rw [tJ_succ ee j (by omega)]
      have := ends_mono (h j (by omega)) 0 _ (Nat.zero_le _) (Nat.le_refl _)
      have h0 : prevE (tJ ee j) ee[j] 0 = tJ ee j := rfl
      rw [h0] at this
      omega
    · rw [show i = j + 1 by omega]; exact Int.le_refl _
theorem stE_tJ {st : Nat} {ee : List (List Int)} (_h : ∀ j (hj : j < ee.length), EndsOk st false (tJ ee j) ee[j]) (j : Nat) (hj : j ≤ ee.length) : stE (ee.map nats) j = (tJ ee j).toNat := by
  induction j with
  | zero => simp [stE, tJ]
  | succ j ih =>
    have hj' : j < (ee.map nats).length := by rw [List.length_map]; omega
    rw [stE_succ _ _ hj', tJ_succ ee j (by omega), List.getElem_map]
    rw [ih (by omega)]
    unfold prevE
    by_cases he : ee[j] = []
    · rw [if_pos (by rw [he]; rfl), if_pos (by rw [he]; rfl)]
    · have hl : ee[j].length ≠ 0 := fun h => he (List.length_eq_zero_iff.1 h)
      rw [if_neg (by intro h; have := congrArg List.length h; rw [nats_len] at this; exact hl this), if_neg hl, nats_getD, nats_len]
theorem fit_areas {st : Nat} {f : List Nat} {ee : List (List Int)} (h : ∀ j (hj : j < ee.length), EndsOk st false (tJ ee j) ee[j]) (hl : tJ ee ee.length = (f.length : Int)) (hf : f.length ≤ 1000000000) :
    (∀ j, stE (ee.map nats) j ≤ 1000000000) ∧ (∀ j, j < (ee.map nats).length → ∀ x, x < ((ee.map nats).getD j []).length → ((ee.map nats).getD j []).getD x 0 ≤ f.length) ∧
    (∀ j, j < (ee.map nats).length → ∀ x, x < ((ee.map nats).getD j []).length → (((ee.map nats).getD j []).getD x 0 - stAt (stE (ee.map nats) j) ((ee.map nats).getD j []) x) % st = 0) ∧ ∀ es ∈ ee, ∀ x ∈ es, 0 ≤ x ∧ x ≤ (f.length : Int) := by
  have hin : ∀ j (hj : j < ee.length) x, x < ee[j].length → 0 ≤ tJ ee j ∧ tJ ee j ≤ prevE (tJ ee j) ee[j] x ∧ prevE (tJ ee j) ee[j] x ≤ ee[j].getD x 0 ∧ ee[j].getD x 0 ≤ (f.length : Int) := by
    intro j hj x hx
    have h1 := ends_in (h j hj) x hx
    have h2 := tJ_mono h (j + 1) ee.length (by omega) (Nat.le_refl _)
    rw [tJ_succ ee j hj] at h2
    have h3 := tJ_mono h 0 j (Nat.zero_le _) (by omega)
    have h4 : tJ ee 0 = 0 := by simp [tJ]
    omega
  have hg : ∀ j (hj : j < ee.length), (ee.map nats).getD j [] = nats ee[j] := by
    intro j hj
    rw [List.getD, List.getElem?_map, List.getElem?_eq_getElem hj]; rfl
  refine ⟨fun j => ?_, fun j hj x hx => ?_, fun j hj x hx => ?_, fun es hes x hx => ?_⟩
  · rcases Nat.lt_or_ge j ee.length with hj | hj
    · rw [stE_tJ h j (by omega)]
      have h2 := tJ_mono h j ee.length (by omega) (Nat.le_refl _)
      omega
    · have : stE (ee.map nats) j = stE (ee.map nats) ee.length := by
        unfold stE
        rw [List.take_of_length_le (by rw [List.length_map]; exact hj), List.take_of_length_le (by rw [List.length_map]; exact Nat.le_refl _)]
      rw [this, stE_tJ h _ (Nat.le_refl _)]
      omega
  · rw [List.length_map] at hj
    rw [hg j hj, nats_len] at hx
    rw [hg j hj, nats_getD]
    have := hin j hj x hx
    omega
  · rw [List.length_map] at hj
    rw [hg j hj, nats_len] at hx
    rw [hg j hj, stE_tJ h j (by omega), nats_getD, stAt_prev]
    have h1 := hin j hj x hx
    exact seg_div (by omega) h1.2.2.1 ((h j hj x hx).2.1)
  · obtain ⟨j, hj, rfl⟩ := List.getElem_of_mem hes
    obtain ⟨k, hk, rfl⟩ := mem_getD hx
    have := hin j hj k hk
    omega
/-- What good data gives. -/
def GP (g : Gm) : Prop := Fit g ∧ Mk g ∧ EIn g
/-- Good data that is no collection. -/
def GoodF (k l : Int) (f : List Nat) (e : List Int) (ee : List (List Int)) (kids : List Gm) : Prop :=
  f.length % (stride l).toNat = 0 ∧ kids = [] ∧ (ee = [] ∨ k = 6) ∧ ((k = 1 ∧ e = [] ∧ f.length ≤ (stride l).toNat) ∨ ((k = 2 ∨ k = 8) ∧ e = []) ∨ ((k = 3 ∨ k = 4 ∨ k = 5) ∧ EndsOk (stride l).toNat (k == 4) 0 e ∧ prevE 0 e e.length = (f.length : Int)) ∨
    (k = 6 ∧ (∀ j (hj : j < ee.length), EndsOk (stride l).toNat false (tJ ee j) ee[j]) ∧ tJ ee ee.length = (f.length : Int) ∧ e = []))
/-- Good data. -/
def GoodX : Gm → Prop
  | .mk k l _ f e ee kids => (k ≠ 7 → GoodF k l f e ee kids) ∧ (k = 7 → (∀ g (_h : g ∈ kids), GoodX g ∧ (l ≠ 0 → layoutT g = l)) ∧ f.length + e.length + ee.length = 0)
termination_by g => SizeOf.sizeOf g
decreasing_by
  have := List.sizeOf_lt_of_mem _h
  simp only [Gm.mk.sizeOf_spec]
  omega
theorem goodX_eq (k l s : Int) (f : List Nat) (e : List Int) (ee : List (List Int)) (kids : List Gm) : GoodX (.mk k l s f e ee kids) ↔ (k ≠ 7 → GoodF k l f e ee kids) ∧ (k = 7 → (∀ g, g ∈ kids → GoodX g ∧ (l ≠ 0 → layoutT g = l)) ∧ f.length + e.length + ee.length = 0) := by
  rw [GoodX]
theorem goodX_one {k l s : Int} {f : List Nat} {e : List Int} {ee : List (List Int)} {kids : List Gm} (h7 : k ≠ 7) : GoodX (.mk k l s f e ee kids) ↔ GoodF k l f e ee kids := by
  rw [goodX_eq]
  exact ⟨fun h => h.1 h7, fun h => ⟨fun _ => h, fun h' => absurd h' h7⟩⟩
theorem gp_of {k l s : Int} {f : List Nat} {e : List Int} {ee : List (List Int)} (h1 : 1 ≤ k) (h8 : k ≤ 8) (h7 : k ≠ 7) (hF : FitF k l f e ee) (hm : k = 4 → e = [] → f = []) (hE : (k = 3 ∨ k = 4 ∨ k = 5 → ∀ x ∈ e, 0 ≤ x ∧ x ≤ (f.length : Int)) ∧ (k = 6 → ∀ es ∈ ee, ∀ x ∈ es, 0 ≤ x ∧ x ≤ (f.length : Int))) : GP (.mk k l s f e ee []) := by
  refine ⟨?_, ?_, ?_⟩
  · rw [fit_eq]; exact ⟨h1, h8, fun _ => ⟨hF, rfl⟩, fun h => absurd h h7, fun g hg => by simp at hg⟩
  · rw [mk_eq]; exact ⟨hm, fun h => absurd h h7, fun g hg => by simp at hg⟩
  · rw [ein_eq]; exact ⟨hE.1, hE.2, fun g hg => by simp at hg⟩
/-- Lengths, all through. -/
def Small : Gm → Prop
  | .mk _ _ _ f e ee kids => f.length ≤ 1000000 ∧ e.length ≤ 1000000 ∧ ee.length ≤ 1000000 ∧ (∀ es ∈ ee, es.length ≤ 1000000) ∧ kids.length ≤ 1000000 ∧ (∀ x ∈ f, x < 18446744073709551616) ∧ ∀ g (_h : g ∈ kids), Small g
termination_by g => SizeOf.sizeOf g
decreasing_by
  have := List.sizeOf_lt_of_mem _h
  simp only [Gm.mk.sizeOf_spec]
  omega
theorem small_eq (k l s : Int) (f : List Nat) (e : List Int) (ee : List (List Int)) (kids : List Gm) : Small (.mk k l s f e ee kids) ↔ f.length ≤ 1000000 ∧ e.length ≤ 1000000 ∧ ee.length ≤ 1000000 ∧ (∀ es ∈ ee, es.length ≤ 1000000) ∧ kids.length ≤ 1000000 ∧ (∀ x ∈ f, x < 18446744073709551616) ∧ ∀ g, g ∈ kids → Small g := by
  rw [Small]
theorem gp_good : ∀ g, GoodX g → Lay g → Small g → GP g := by
  intro g
  induction g using Gm.ind with
  | h k l s f e ee kids ih =>
    intro hx hL hS
    rw [lay_eq] at hL
    rw [small_eq] at hS
    by_cases h7 : k = 7
    · subst h7
      rw [goodX_eq] at hx
      obtain ⟨hk, _⟩ := hx.2 rfl
      have hg := fun g hg => ih g hg (hk g hg).1 (hL.2.2.2 g hg) (hS.2.2.2.2.2.2 g hg)
      refine ⟨?_, ?_, ?_⟩
      · rw [fit_eq]; exact ⟨by decide, by decide, fun h => absurd rfl h, fun _ => ⟨hL.2.1, hL.2.2.1⟩, fun g h => (hg g h).1⟩
      · rw [mk_eq]; exact ⟨fun h => absurd h (by decide), fun _ hl g h => (hk g h).2 hl, fun g h => (hg g h).2.1⟩
      · rw [ein_eq]; exact ⟨fun h => absurd h (by decide), fun h => absurd h (by decide), fun g h => (hg g h).2.2⟩
    · rw [goodX_one h7] at hx
      obtain ⟨hd, rfl, he, hk⟩ := hx
      have hl1 := hL.1 h7
      have hsb := stride_bd l hl1 hL.2.2.1
      rcases hk with ⟨rfl, _, h2⟩ | ⟨hk, _⟩ | ⟨hk, h1, h2⟩ | ⟨rfl, h1, h2, _⟩
      · refine gp_of (by decide) (by decide) (by decide) ⟨hl1, hL.2.2.1, hd, fun _ => ?_, fun h => absurd h (by decide), fun h => absurd h (by decide)⟩ (fun h => absurd h (by decide)) ⟨fun h => absurd h (by decide), fun h => absurd h (by decide)⟩
        by_cases h6 : f.length = 0
        · exact Or.inl (List.length_eq_zero_iff.1 h6)
        · refine Or.inr ?_
          rcases Nat.lt_or_ge f.length (stride l).toNat with h7 | h7
          · rw [Nat.mod_eq_of_lt h7] at hd; exact absurd hd h6
          · omega
      · refine gp_of (by omega) (by omega) h7 ⟨hl1, hL.2.2.1, hd, fun h => by omega, fun h => by omega, fun h => by omega⟩ (fun h => by omega) ⟨fun h => by omega, fun h => by omega⟩
      · have hfe := fit_ends h1 h2
        refine gp_of (by omega) (by omega) h7 ⟨hl1, hL.2.2.1, hd, fun h => by omega, fun _ => ⟨hfe.1, fun _ => hfe.2.1, fun _ hf he => hf (hfe.2.2.1 he)⟩, fun h => by omega⟩ (fun _ => hfe.2.2.1) ⟨fun _ => hfe.2.2.2, fun h => by omega⟩
      · have hfa := fit_areas (f := f) h1 h2 (by have := hS.1; omega)
        exact gp_of (by decide) (by decide) (by decide) ⟨hl1, hL.2.2.1, hd, fun h => absurd h (by decide), fun h => absurd h (by decide), fun _ => ⟨hfa.1, hfa.2.1, hfa.2.2.1⟩⟩ (fun h => absurd h (by decide)) ⟨fun h => absurd h (by decide), fun _ => hfa.2.2.2⟩
theorem sane_of : ∀ g, EIn g → Small g → Sane g := by
  intro g
  induction g using Gm.ind with
  | h k l s f e ee kids ih =>
    intro hE hS
    rw [ein_eq] at hE
    rw [small_eq] at hS
    rw [sane_eq]
    obtain ⟨s1, s2, s3, s4, s5, s6, s7⟩ := hS
    exact ⟨s6, s1, s2, s3, s4, s5, fun h x hx => by have := hE.1 h x hx; omega, fun h es hes x hx => by have := hE.2.1 h es hes x hx; omega, fun g hg => ih g hg (hE.2.2 g hg) (s7 g hg)⟩
end Go.Proofs.YtlmilelopajdiaaGreatDoor
