/-
  impl.intss: a slice of slices is copied.
-/
import Derived.Test.YtlmilelopajdiaaGreatDoorUF2
import Derived.Deep.CutBlock
import Derived.Deep.DeepCutAuto
import Derived.Deep.RegionWith
namespace Go.Proofs.YtlmilelopajdiaaGreatDoor
open Go.RowKit

theorem info23 : (Tryz.prog.info? 23).map (fun i => (i.zero, i.size, i.bytes)) = some (some (.slice none 0 0), 1, 24) := by kernel_rfl
theorem info45 : (Tryz.prog.info? 45).map (fun i => (i.zero, i.size, i.bytes)) = some (some .nilIface, 1, 16) := by kernel_rfl
/-- What has been made so far: the values lie in blocks of their own. -/
def Made (w wr : World) (v : Value) (ee : List (List Int)) (xs : List Value) : Prop :=
  ∀ (i : Nat) (x : Value) (es : List Int), xs[i]? = some x → ee[i]? = some es → ∃ S : Nat → Prop, OwnS wr S x (es.map iv) ∧ ∀ b, S b → w.heap.size ≤ b ∧ b < wr.heap.size ∧ v.ownBlock ≠ some b
theorem made_step {w wr w1 w3 : World} {v v' v'' : Value} {ee : List (List Int)} {xs : List Value} {es : List Int} {k : Nat} {o : Obj} (h : Made w wr v ee xs) (hk : xs.length = k) (he : ee[k]? = some es) (h1 : OwnS w1 (Betw wr w1) v' (es.map iv)) (hb1 : Below wr.heap.size wr w1) (hw : w.heap.size ≤ wr.heap.size)
    (hv : ∀ g, v.ownBlock = some g → g < wr.heap.size) (hg : (w1.alloc o).grownBy w3 v.ownBlock) (hn : v''.ownBlock = v.ownBlock ∨ ∃ g, v''.ownBlock = some g ∧ (w1.alloc o).heap.size ≤ g) : Made w w3 v'' ee (xs ++ [v']) := by
  have hs1 := hb1.size
  have hs2 : (w1.alloc o).heap.size = w1.heap.size + 1 := by simp
  have hs3 := hg.size
  have hfr : ∀ b, b < w1.heap.size → v.ownBlock ≠ some b → w3.heap[b]? = w1.heap[b]? := by
    intro b hb hne
    rw [hg.block b (by omega) (fun e => hne e.symm)]
    exact Below.heap_alloc w1 o b hb
  have hne : ∀ b, b < w1.heap.size → v.ownBlock ≠ some b → v''.ownBlock ≠ some b := by
    intro b hb h0 h2
    rcases hn with e | ⟨g, e1, e2⟩
    · rw [e] at h2; exact h0 h2
    · rw [e1] at h2; injection h2 with h2; omega
  intro i x es' hx he'
  by_cases hi : i < k
  · rw [List.getElem?_append_left (by omega)] at hx
    obtain ⟨S, a1, a2⟩ := h i x es' hx he'
    refine ⟨S, a1.frame (fun _ h => h) (fun b hb => ?_), fun b hb => ?_⟩
    · obtain ⟨c1, c2, c3⟩ := a2 b hb
      rw [hfr b (by omega) c3]
      exact hb1.block b c2
    · obtain ⟨c1, c2, c3⟩ := a2 b hb
      exact ⟨c1, by omega, hne b (by omega) c3⟩
  · have hik : i = k := by
      have := (List.getElem?_eq_some_iff.1 hx).1
      rw [List.length_append] at this
      simp at this; omega
    subst hik
    rw [he] at he'
    injection he' with he'
    subst he'
    rw [List.getElem?_append_right (by omega), show i - xs.length = 0 by omega] at hx
    simp at hx
    subst hx
    have hvn : ∀ b, wr.heap.size ≤ b → v.ownBlock ≠ some b := fun b hb h => by have := hv b h; omega
    refine ⟨Betw wr w1, h1.frame (fun _ h => h) (fun b hb => hfr b hb.2 (hvn b hb.1)), fun b hb => ⟨by have := hb.1; omega, by have := hb.2; omega, hne b hb.2 (hvn b hb.1)⟩⟩

set_option maxRecDepth 100000 in
set_option maxHeartbeats 2000000 in
theorem intssCopy (w : World) (B : Nat) (v : Value) (vs : List Value) (ee : List (List Int)) (h : Row w B v vs) (hl : vs.length = ee.length) (hB : B ≤ w.heap.size) (hin : ∀ (i : Nat) (x : Value) (es : List Int), vs[i]? = some x → ee[i]? = some es → Row w B x (es.map iv)) :
    Calls Tryz.prog 43 #[v] w fun e w' => ∃ v' vs', e = .returned v' ∧ OwnS w' (Betw w w') v' vs' ∧ vs'.length = ee.length ∧ (∀ (i : Nat) (x : Value) (es : List Int), vs'[i]? = some x → ee[i]? = some es → OwnS w' (Betw w w') x (es.map iv)) ∧ Below w.heap.size w w' := by
  obtain ⟨a, cap, rfl, hc, hc2, ha, hcell⟩ := h
  obtain ⟨i0, hi, hz0, hz1, hz2⟩ := info_parts info23
  by_cases hv0 : vs = []
  · subst hv0
    have he : ee = [] := List.length_eq_zero_iff.1 hl.symm
    subst he
    clear ha hcell hin hl
    go_enter Tryz.func43, Tryz.ntmps43
    go_wp2_with fail
    go_loopg [3, 8] 0 (fun g v3 v8 wr => v3 = .slice none 0 0 ∧ v8 = .int .i64 0 ∧ wr = w)
    case atStart => exact ⟨rfl, rfl, rfl⟩
    case round =>
      obtain ⟨rfl, rfl, rfl⟩ := hrel
      go_wp2_with fail
      go_ret
      exact ⟨_, [], rfl, Or.inl ⟨rfl, rfl⟩, rfl, fun i x es hx => by simp at hx, Below.refl _ _⟩
  · obtain ⟨b, o, rfl, hbB, hcl⟩ := hcell hv0
    obtain ⟨N, hN⟩ : ∃ N, N = vs.length := ⟨_, rfl⟩
    have HN := Lib.hid hN
    have HL := Lib.hid hl
    have HIN := Lib.hid hin
    have HC := Lib.hid hcl
    rw [← hN] at hc hc2 ⊢
    obtain ⟨hN9, hc9⟩ := hc2
    have HZ := Lib.hid hz0
    clear hN hl hin hcl ha hcell hv0
    go_enter Tryz.func43, Tryz.ntmps43
    go_wp2_with fail
    go_loopg [3, 8] N (fun g v3 v8 wr => ∃ (k : Nat) (xs : List Value), k + g = N ∧ v8 = .int .i64 k ∧ Hid (k = 0 → v3 = .slice none 0 0) ∧ Hid (wr.ownsRow w.heap.size 23 1 v3 k xs) ∧ Hid (Below w.heap.size w wr) ∧ Hid (Made w wr v3 ee xs) ∧ Hid (∃ a c, v3 = .slice a k c))
    case atStart => exact ⟨0, [], by omega, rfl, Lib.hid (fun _ => rfl), Lib.hid (row_none _ _ _), Lib.hid (Below.refl _ _), Lib.hid (fun i x es hx => by simp at hx), Lib.hid ⟨none, 0, rfl⟩⟩
    case round =>
      obtain ⟨k, xs, hk, rfl, H0, HO, HB, HM, HS⟩ := hrel
      by_cases hkn : k < N
      · obtain ⟨x, hx⟩ : ∃ x, vs[k]? = some x := ⟨_, List.getElem?_eq_getElem (by rw [← HN.out]; exact hkn)⟩
        obtain ⟨es, hes⟩ : ∃ es, ee[k]? = some es := ⟨_, List.getElem?_eq_getElem (by rw [← HL.out, ← HN.out]; exact hkn)⟩
        have hcx : wr.cell? ⟨b, o + k, none⟩ = some x := by rw [HB.out.cell (by show b < _; omega)]; exact HC.out k x hx
        obtain ⟨xa, xc, hxl⟩ : ∃ a c, x = .slice a (es.map iv).length c := by
          obtain ⟨a, c, h, _⟩ := HIN.out k x es hx hes
          exact ⟨a, c, h⟩
        have HCAL := Lib.hid (intsCopy wr B x (es.map iv) ((HIN.out k x es hx hes).below (HB.out.mono hB)) (by intro u hu; obtain ⟨y, _, rfl⟩ := List.mem_map.1 hu; rfl))
        obtain ⟨nx, hnx⟩ : ∃ nx, nx = (es.map iv).length := ⟨_, rfl⟩
        rw [← hnx] at hxl
        have HES := Lib.hid hes
        clear hx hes hnx
        subst hxl
        obtain ⟨a3, c3, h3⟩ := HS.out
        subst h3
        go_wp2_with fail
        refine HCAL.out.mono ?_
        rintro e w1 ⟨v', rfl, ho', hb'⟩
        obtain ⟨a', c', hv'⟩ := ho'.lit
        have HO' := Lib.hid ho'
        have HB' := Lib.hid hb'
        obtain ⟨nv, hnv⟩ : ∃ nv, nv = (es.map iv).length := ⟨_, rfl⟩
        rw [← hnv] at hv'
        clear HCAL hnv ho' hb'
        subst hv'
        have HSZ : Hid (w.heap.size ≤ wr.heap.size ∧ wr.heap.size ≤ w1.heap.size) := Lib.hid ⟨HB.out.size, HB'.out.size⟩
        have HOW : Hid ((w1.alloc (.cells #[.slice a' nv c'] 23)).ownsRow w.heap.size 23 1 (.slice a3 k c3) k xs) := Lib.hid ((own_below HO.out HB'.out).alloc _)
        go_wp2_with (at_builtin; refine append_one _ rfl _ _ 24 rfl w.heap.size 23 i0 (.slice none 0 0) 24 Tryz.underlying24 hi HZ.out hz1 hz2 rfl (.slice a3 k c3) k xs rfl HOW.out ⟨w1.heap.size, 0, none⟩ 1 (.slice a' nv c') rfl (by go_cell) rfl (by omega) (by omega) (by have := HSZ.out; simp; omega) ?_; intro v'' w3 hown hgrow hfresh)
        have hkl : xs.length = k := by have := HO.out.1; omega
        have HMM : Hid (Made w w3 v'' ee (xs ++ [.slice a' nv c'])) := Lib.hid (made_step HM.out hkl HES.out HO'.out HB'.out HSZ.out.1 (fun g hg => (HO.out.lt g hg).2) hgrow hfresh)
        have HBB : Hid (Below w.heap.size w w3) := Lib.hid (((HB.out.trans (HB'.out.mono HSZ.out.1)).alloc (by have := HSZ.out; omega) _).grown hgrow (by have := HSZ.out; simp; omega) (fun g hg => (HO.out.lt g hg).1))
        have HOO := Lib.hid hown
        have HLL : Hid (∃ a c, v'' = .slice a (k + 1) c) := Lib.hid (by
          rcases hown.2 with ⟨e1, e2⟩ | ⟨g, cap, cur, e1, _⟩
          · exact absurd e2 (by omega)
          · exact ⟨_, cap, e1⟩)
        clear hown hgrow hfresh
        go_wp2_with fail
        go_roundg (gk - 1)
        case measure => omega
        case rel => exact ⟨k + 1, _, by omega, by go_num, Lib.hid (fun h => absurd h (by omega)), HOO, HBB, HMM, HLL⟩
      · obtain rfl : k = N := by omega
        obtain ⟨a3, c3, h3⟩ := HS.out
        subst h3
        go_wp2_with fail
        go_ret
        have hkl : xs.length = k := by have := HO.out.1; omega
        refine ⟨_, xs, rfl, ownS_of HO.out H0.out, by rw [hkl, HN.out, HL.out], fun i x es hx he => ?_, HB.out⟩
        obtain ⟨S, h1, h2⟩ := HM.out i x es hx he
        exact h1.frame (fun b hb => ⟨(h2 b hb).1, (h2 b hb).2.1⟩) (fun _ _ => rfl)
end Go.Proofs.YtlmilelopajdiaaGreatDoor

/-
  A collection in the making: Push, MustPush, CheckLayout, SetLayout, MustSetLayout.
-/
namespace Go.Proofs.YtlmilelopajdiaaGreatDoor
open Go.RowKit

/-- What a push leaves: cell 1 of block cb holds a slice with one value more. -/
def Pushed (w : World) (cb base : Nat) (aa : Option Addr) (n cap : Nat) (sv : Value) (xs : List Value) (u : Value) (w' : World) : Prop :=
  ∃ (g' cap' : Nat) (w1 : World), w1.ownsRow base 45 1 (.slice (some ⟨g', 0, none⟩) (n + 1) cap') (n + 1) (xs ++ [u]) ∧ w.grownBy w1 (Value.slice aa n cap).ownBlock ∧ (some g' = (Value.slice aa n cap).ownBlock ∨ w.heap.size ≤ g') ∧ w' = w1.setCell ⟨cb, 1, none⟩ (.slice (some ⟨g', 0, none⟩) (n + 1) cap') ∧ w1.heap[cb]? = some (.cells #[.int .i64 0, .slice aa n cap, sv] 125 (0, 0))

set_option maxRecDepth 100000 in
set_option maxHeartbeats 2000000 in
theorem pushC (w : World) (cb sb base : Nat) (aa : Option Addr) (n cap : Nat) (sv : Value) (xs : List Value) (u : Value) (h0 : w.heap[cb]? = some (.cells #[.int .i64 0, .slice aa n cap, sv] 125 (0, 0))) (hown : w.ownsRow base 45 1 (.slice aa n cap) n xs) (hs : w.cell? ⟨sb, 0, none⟩ = some u) (h1 : u.oneCell' = true)
    (hn : n + 1 ≤ 1000000000) (hb : base ≤ w.heap.size) :
    Calls Tryz.prog 57 #[.pointer (some ⟨cb, 0, none⟩), .slice (some ⟨sb, 0, none⟩) 1 1] w fun e w' => e = .returned .nilIface ∧ Pushed w cb base aa n cap sv xs u w' := by
  obtain ⟨i0, hi, hz0, hz1, hz2⟩ := info_parts info45
  have c0 : w.cell? ⟨cb, 0, none⟩ = some (.int .i64 0) := by rw [Lib.cell_of_heap h0]; rfl
  have c1 : w.cell? ⟨cb, 1, none⟩ = some (.slice aa n cap) := by rw [Lib.cell_of_heap h0]; rfl
  have H0 := Lib.hid h0
  have HO := Lib.hid hown
  have HZ := Lib.hid hz0
  have H1 := Lib.hid h1
  clear h0 hown hz0 h1
  go_enter Tryz.func57, Tryz.ntmps57
  go_wp2_with (at_builtin; refine append_one _ rfl _ _ 123 rfl base 45 i0 .nilIface 16 ?_ ?_ ?_ ?_ ?_ ?_ (.slice aa n cap) n xs ?_ ?_ ⟨sb, 0, none⟩ 1 u ?_ ?_ ?_ ?_ ?_ ?_ ?_)
  exact Tryz.underlying123
  exact hi
  exact HZ.out
  exact hz1
  exact hz2
  rfl
  rfl
  exact HO.out
  rfl
  exact hs
  exact H1.out
  omega
  omega
  omega
  intro v'' w1 hown hgrow hfresh
  obtain ⟨g', cap', hv⟩ : ∃ g' cap', v'' = .slice (some ⟨g', 0, none⟩) (n + 1) cap' := by
    rcases hown.2 with ⟨e1, e2⟩ | ⟨g, cap, cur, e1, _⟩
    · exact absurd e2 (by omega)
    · exact ⟨_, cap, e1⟩
  subst hv
  have hcb : w1.heap[cb]? = some (.cells #[.int .i64 0, .slice aa n cap, sv] 125 (0, 0)) := by
    rw [hgrow.block cb (lt_of_block H0.out) (fun e => Lib.ownBlock_ne HO.out H0.out (by decide) e.symm)]; exact H0.out
  have d1 : w1.cell? ⟨cb, 1, none⟩ = some (.slice aa n cap) := by rw [Lib.cell_of_heap hcb]; rfl
  have d2 : w1.frozen? ⟨cb, 1, none⟩ = false := Lib.frozen_of_heap hcb 1
  have HP : Hid (∀ w', w' = w1.setCell ⟨cb, 1, none⟩ (.slice (some ⟨g', 0, none⟩) (n + 1) cap') → Pushed w cb base aa n cap sv xs u w') := Lib.hid (by
    intro w' hw'
    refine ⟨g', cap', w1, hown, hgrow, ?_, hw', hcb⟩
    rcases hfresh with e | ⟨g, e1, e2⟩
    · exact Or.inl (by rw [← e]; rfl)
    · have : g' = g := by injection e1
      exact Or.inr (by omega))
  clear hown hgrow hfresh hcb
  go_wp2_with fail
  go_ret
  exact ⟨rfl, HP.out _ rfl⟩

set_option maxRecDepth 100000 in
theorem mustPush (w : World) (cb sb : Nat) (Q : World → Prop) (h : Calls Tryz.prog 57 #[.pointer (some ⟨cb, 0, none⟩), .slice (some ⟨sb, 0, none⟩) 1 1] w fun e w' => e = .returned .nilIface ∧ Q w') :
    Calls Tryz.prog 47 #[.pointer (some ⟨cb, 0, none⟩), .slice (some ⟨sb, 0, none⟩) 1 1] w fun e w' => e = .returned (.pointer (some ⟨cb, 0, none⟩)) ∧ Q w' := by
  have HH := Lib.hid h
  clear h
  go_enter Tryz.func47, Tryz.ntmps47
  go_wp2_with fail
  refine HH.out.mono ?_
  rintro e w' ⟨rfl, hQ⟩
  have HQ := Lib.hid hQ
  clear hQ HH
  go_wp2_with fail
  go_ret
  exact ⟨rfl, HQ.out⟩

set_option maxRecDepth 100000 in
set_option maxHeartbeats 2000000 in
theorem checkLay (w : World) (B cb : Nat) (l : Int) (aa : Option Addr) (N cap : Nat) (kids : List Gm) (hN : N = kids.length) (hN2 : N ≤ 1000000000) (c1 : w.cell? ⟨cb, 1, none⟩ = some (.slice aa N cap)) (hcap : N ≤ cap)
    (hal : N = 0 ∨ ∃ g, aa = some ⟨g, 0, none⟩) (hk : ∀ (j : Nat) (g : Gm), kids[j]? = some g → Kinds g ∧ (l ≠ 0 → layoutT g = l) ∧ ∃ x q, x = .iface (tyOf g.kind) (.pointer (some ⟨q, 0, none⟩)) ∧ Rep w B g x ∧ ∀ gb, aa = some ⟨gb, 0, none⟩ → w.cell? ⟨gb, j, none⟩ = some x) :
    Calls Tryz.prog 79 #[.pointer (some ⟨cb, 0, none⟩), .int .i64 l] w fun e w' => e = .returned .nilIface ∧ w = w' := by
  by_cases hl : l = 0
  · subst hl
    clear hk
    go_enter Tryz.func79, Tryz.ntmps79
    go_wp2_with fail
    go_ret
    exact ⟨rfl, rfl⟩
  · have hl2 : (l != 0) = true := by simp [hl]
    have HK := Lib.hid hk
    have HN := Lib.hid hN
    have HL := Lib.hid hl
    clear hk hN hl
    rcases hal with rfl | ⟨gb, rfl⟩
    · go_enter Tryz.func79, Tryz.ntmps79
      go_wp2_with fail
      go_loopg [15] 0 (fun g v15 wr => v15 = .int .i64 0 ∧ w = wr)
      case atStart => exact ⟨rfl, rfl⟩
      case round =>
        obtain ⟨rfl, rfl⟩ := hrel
        go_wp2_with fail
        go_ret
        exact ⟨rfl, rfl⟩
    · go_enter Tryz.func79, Tryz.ntmps79
      go_wp2_with fail
      go_loopg [15] N (fun g v15 wr => ∃ j : Nat, j + g = N ∧ v15 = .int .i64 j ∧ w = wr)
      case atStart => exact ⟨0, by omega, rfl, rfl⟩
      case round =>
        obtain ⟨j, hj, rfl, rfl⟩ := hrel
        by_cases hjN : j < N
        · obtain ⟨g, hg⟩ : ∃ g, kids[j]? = some g := ⟨_, List.getElem?_eq_getElem (by rw [← HN.out]; exact hjN)⟩
          obtain ⟨hki, hla, x, q, rfl, hrep, hcx⟩ := HK.out j g hg
          have cx := hcx gb rfl
          have HA := Lib.hid (layAns g w B q hki hrep)
          unfold LayAns at HA
          rw [hla HL.out] at HA
          have hk8 : g.kind = 1 ∨ g.kind = 2 ∨ g.kind = 3 ∨ g.kind = 4 ∨ g.kind = 5 ∨ g.kind = 6 ∨ g.kind = 7 ∨ g.kind = 8 := by
            cases g
            have := (kinds_eq ..).1 hki
            show _ = _ ∨ _
            simp only [Gm.kind]
            omega
          obtain ⟨kd, hkd⟩ : ∃ kd, kd = g.kind := ⟨_, rfl⟩
          rw [← hkd] at HA cx hk8
          obtain ⟨T, hT⟩ : ∃ T, T = tyOf kd := ⟨_, rfl⟩
          rw [← hT] at cx
          have HT := Lib.hid hT
          have HK8 := Lib.hid hk8
          clear hk8 hT hkd hrep hcx hla hki hg HK HN
          go_upto_region 5 with (fail)
          go_cut [7] (fun v7 wx => v7 = .int .i64 l ∧ w = wx)
          case first =>
            rcases HK8.out with rfl | rfl | rfl | rfl | rfl | rfl | rfl | rfl
            all_goals
              obtain rfl : T = _ := HT.out
              go_wp2_with fail
              refine HA.out.mono ?_
              rintro en w' ⟨rfl, rfl⟩
              go_wp2_with fail
              go_meet
              exact ⟨rfl, rfl⟩
          case rest =>
            obtain ⟨rfl, rfl⟩ := hcut
            have ht : (l != l) = false := by simp
            clear HA HT HK8
            go_wp2_with fail
            go_roundg (gk - 1)
            case measure => omega
            case rel => exact ⟨j + 1, by omega, by go_num, rfl⟩
        · obtain rfl : j = N := by omega
          clear HK HN
          go_wp2_with fail
          go_ret
          exact ⟨rfl, rfl⟩
set_option maxRecDepth 100000 in
theorem setLay (w : World) (cb : Nat) (l : Int) (u : Value) (h0 : w.cell? ⟨cb, 0, none⟩ = some u) (hf : w.frozen? ⟨cb, 0, none⟩ = false) (h : Calls Tryz.prog 79 #[.pointer (some ⟨cb, 0, none⟩), .int .i64 l] w fun e w' => e = .returned .nilIface ∧ w = w') :
    Calls Tryz.prog 58 #[.pointer (some ⟨cb, 0, none⟩), .int .i64 l] w fun e w' => e = .returned .nilIface ∧ w' = w.setCell ⟨cb, 0, none⟩ (.int .i64 l) := by
  have HH := Lib.hid h
  clear h
  go_enter Tryz.func58, Tryz.ntmps58
  go_wp2_with fail
  refine HH.out.mono ?_
  rintro e w' ⟨rfl, rfl⟩
  clear HH
  go_wp2_with fail
  go_ret
  exact ⟨rfl, rfl⟩
set_option maxRecDepth 100000 in
theorem mustSetLay (w : World) (cb : Nat) (l : Int) (u : Value) (h0 : w.cell? ⟨cb, 0, none⟩ = some u) (hf : w.frozen? ⟨cb, 0, none⟩ = false) (h : Calls Tryz.prog 79 #[.pointer (some ⟨cb, 0, none⟩), .int .i64 l] w fun e w' => e = .returned .nilIface ∧ w = w') :
    Calls Tryz.prog 48 #[.pointer (some ⟨cb, 0, none⟩), .int .i64 l] w fun e w' => e = .returned (.pointer (some ⟨cb, 0, none⟩)) ∧ w' = w.setCell ⟨cb, 0, none⟩ (.int .i64 l) := by
  have HH := Lib.hid (setLay w cb l u h0 hf h)
  clear h
  go_enter Tryz.func48, Tryz.ntmps48
  go_wp2_with fail
  refine HH.out.mono ?_
  rintro e w' ⟨rfl, rfl⟩
  clear HH
  go_wp2_with fail
  go_ret
  exact ⟨rfl, rfl⟩
end Go.Proofs.YtlmilelopajdiaaGreatDoor

/-
  impl.geometry: what is common to its ways.
-/
namespace Go.Proofs.YtlmilelopajdiaaGreatDoor
open Go.RowKit

/-- What impl.geometry makes of a geometry. -/
def MAns (g : Gm) : Prop := ∀ (w : World) (B : Nat) (cs : List Value), ARep w B g cs → B ≤ w.heap.size → Calls Tryz.prog 17 #[.agg cs.toArray] w fun e w' => ∃ u, e = .returned u ∧ RepS w' (Betw w w') g u ∧ Below w.heap.size w w'
/-- Block b1 holds the boxed geometry. -/
def Box (w : World) (b1 : Nat) (k l s : Int) (vf ve vee vk : Value) : Prop := w.heap[b1]? = some (.cells #[.int .i64 k, .int .i64 l, .int .i64 s, vf, ve, vee, vk] 27 (0, 0))
theorem Box.below {w w' : World} {b1 : Nat} {k l s : Int} {vf ve vee vk : Value} (h : Box w b1 k l s vf ve vee vk) {B : Nat} (hb : Below B w w') (hB : b1 < B) : Box w' b1 k l s vf ve vee vk := by
  unfold Box at h ⊢
  rw [hb.block b1 hB]; exact h
theorem Box.c0 {w : World} {b1 : Nat} {k l s : Int} {vf ve vee vk : Value} (h : Box w b1 k l s vf ve vee vk) : w.cell? ⟨b1, 0, none⟩ = some (.int .i64 k) := by rw [Lib.cell_of_heap h]; rfl
theorem Box.c1 {w : World} {b1 : Nat} {k l s : Int} {vf ve vee vk : Value} (h : Box w b1 k l s vf ve vee vk) : w.cell? ⟨b1, 1, none⟩ = some (.int .i64 l) := by rw [Lib.cell_of_heap h]; rfl
theorem Box.c2 {w : World} {b1 : Nat} {k l s : Int} {vf ve vee vk : Value} (h : Box w b1 k l s vf ve vee vk) : w.cell? ⟨b1, 2, none⟩ = some (.int .i64 s) := by rw [Lib.cell_of_heap h]; rfl
theorem Box.c3 {w : World} {b1 : Nat} {k l s : Int} {vf ve vee vk : Value} (h : Box w b1 k l s vf ve vee vk) : w.cell? ⟨b1, 3, none⟩ = some vf := by rw [Lib.cell_of_heap h]; rfl
theorem Box.c4 {w : World} {b1 : Nat} {k l s : Int} {vf ve vee vk : Value} (h : Box w b1 k l s vf ve vee vk) : w.cell? ⟨b1, 4, none⟩ = some ve := by rw [Lib.cell_of_heap h]; rfl
theorem Box.c5 {w : World} {b1 : Nat} {k l s : Int} {vf ve vee vk : Value} (h : Box w b1 k l s vf ve vee vk) : w.cell? ⟨b1, 5, none⟩ = some vee := by rw [Lib.cell_of_heap h]; rfl
theorem Box.c6 {w : World} {b1 : Nat} {k l s : Int} {vf ve vee vk : Value} (h : Box w b1 k l s vf ve vee vk) : w.cell? ⟨b1, 6, none⟩ = some vk := by rw [Lib.cell_of_heap h]; rfl
theorem oneF (f : List Nat) : ∀ u ∈ f.map fv, u.oneCell' = true := by
  intro u hu; obtain ⟨y, _, rfl⟩ := List.mem_map.1 hu; rfl
theorem oneI (e : List Int) : ∀ u ∈ e.map iv, u.oneCell' = true := by
  intro u hu; obtain ⟨y, _, rfl⟩ := List.mem_map.1 hu; rfl
theorem setc_block {w : World} {b : Nat} {cs : Array Value} {T : TypeId} (h : w.heap[b]? = some (.cells cs T (0, 0))) (j : Nat) (u : Value) (_hj : j < cs.size) : (w.setCell ⟨b, j, none⟩ u).heap[b]? = some (.cells (cs.set! j u) T (0, 0)) ∧ Below b w (w.setCell ⟨b, j, none⟩ u) ∧ ∀ b', b' ≠ b → (w.setCell ⟨b, j, none⟩ u).heap[b']? = w.heap[b']? := by
  have hb := lt_of_block h
  refine ⟨?_, (Below.refl b w).setCell (p := ⟨b, j, none⟩) (Nat.le_refl _) u, fun b' hb' => ?_⟩
  · unfold World.setCell
    simp [h, Array.getElem?_modify]
  · unfold World.setCell
    simp [Array.getElem?_modify, Ne.symm hb']
end Go.Proofs.YtlmilelopajdiaaGreatDoor
