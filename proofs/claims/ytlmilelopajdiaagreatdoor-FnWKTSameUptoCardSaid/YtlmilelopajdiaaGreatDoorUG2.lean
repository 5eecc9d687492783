/-
  impl.geometry at a collection.
-/
import Derived.Test.YtlmilelopajdiaaGreatDoorUF6
import Derived.Deep.DeepCutAuto
import Derived.Test.YtlmilelopajdiaaGreatDoorUF9
import Derived.Test.YtlmilelopajdiaaGreatDoorUG0
import Derived.Test.YtlmilelopajdiaaGreatDoorUG1
namespace Go.Proofs.YtlmilelopajdiaaGreatDoor
open Go.RowKit

theorem RowK.lit {w : World} {B : Nat} {v : Value} {css : List (List Value)} (h : RowK w B v css) : ∃ a c, v = .slice a css.length c := by
  obtain ⟨a, c, h, _⟩ := h
  exact ⟨a, c, h⟩
theorem Row.lit {w : World} {B : Nat} {v : Value} {vals : List Value} (h : Row w B v vals) : ∃ a c, v = .slice a vals.length c := by
  obtain ⟨a, c, h, _⟩ := h
  exact ⟨a, c, h⟩
/-- The kids' objects that have been made so far. -/
def KMade (cb : Nat) (wr : World) (aa : Option Addr) (kids : List Gm) (xs : List Value) : Prop :=
  ∀ (i : Nat) (x : Value) (g : Gm), xs[i]? = some x → kids[i]? = some g → ∃ S : Nat → Prop, RepS wr S g x ∧ ∀ b, S b → cb < b ∧ b < wr.heap.size ∧ aa ≠ some ⟨b, 0, none⟩

theorem kmade_step {cb j cp g' : Nat} {wr w4 w5 w1 w7 : World} {aa : Option Addr} {kids : List Gm} {xs : List Value} {g : Gm} {u : Value} {o : Obj} (h : KMade cb wr aa kids xs) (hk : xs.length = j) (hg : kids[j]? = some g) (hcb : cb < wr.heap.size)
    (h4 : Below wr.heap.size wr w4) (hr : RepS w5 (Betw w4 w5) g u) (h5 : Below w4.heap.size w4 w5) (hg1 : (w5.alloc o).grownBy w1 (Value.slice aa j cp).ownBlock) (hw7 : ∀ b, b ≠ cb → w7.heap[b]? = w1.heap[b]?) (hsz : w7.heap.size = w1.heap.size)
    (hn : some g' = (Value.slice aa j cp).ownBlock ∨ (w5.alloc o).heap.size ≤ g') (hob : ∀ b, (Value.slice aa j cp).ownBlock = some b → aa = some ⟨b, 0, none⟩ ∧ b < wr.heap.size) : KMade cb w7 (some ⟨g', 0, none⟩) kids (xs ++ [u]) := by
  have e4 := h4.size
  have e5 := h5.size
  have e6 : (w5.alloc o).heap.size = w5.heap.size + 1 := by simp
  have e7 := hg1.size
  have hfr : ∀ b, b < w5.heap.size → b ≠ cb → aa ≠ some ⟨b, 0, none⟩ → w7.heap[b]? = w5.heap[b]? := by
    intro b hb hne hna
    rw [hw7 b hne, hg1.block b (by omega) (fun e => hna (hob b e.symm).1)]
    exact Below.heap_alloc w5 o b hb
  have hne : ∀ b, b < w5.heap.size → aa ≠ some ⟨b, 0, none⟩ → (some ⟨g', 0, none⟩ : Option Addr) ≠ some ⟨b, 0, none⟩ := by
    intro b hb hna e
    have hgb : g' = b := by injection e with e; injection e
    subst hgb
    rcases hn with e | e
    · exact hna (hob _ e.symm).1
    · omega
  intro i x gi hx hgi
  by_cases hi : i < j
  · rw [List.getElem?_append_left (by omega)] at hx
    obtain ⟨S, a1, a2⟩ := h i x gi hx hgi
    refine ⟨S, a1.frame _ _ _ _ (fun _ h => h) (fun b hb => ?_), fun b hb => ?_⟩
    · obtain ⟨c1, c2, c3⟩ := a2 b hb
      rw [hfr b (by omega) (by omega) c3, h5.block b (by omega)]
      exact h4.block b c2
    · obtain ⟨c1, c2, c3⟩ := a2 b hb
      exact ⟨c1, by omega, hne b (by omega) c3⟩
  · have hij : i = j := by
      have := (List.getElem?_eq_some_iff.1 hx).1
      rw [List.length_append] at this
      simp at this; omega
    subst hij
    rw [hg] at hgi
    injection hgi with hgi
    subst hgi
    rw [List.getElem?_append_right (by omega), show i - xs.length = 0 by omega] at hx
    simp at hx
    subst hx
    have hna : ∀ b, w4.heap.size ≤ b → aa ≠ some ⟨b, 0, none⟩ := by
      intro b hb e
      subst e
      have := (hob b rfl).2
      omega
    refine ⟨Betw w4 w5, hr.frame _ _ _ _ (fun _ h => h) (fun b hb => hfr b hb.2 (by have := hb.1; omega) (hna b hb.1)), fun b hb => ⟨by have := hb.1; omega, by have := hb.2; omega, hne b hb.2 (hna b hb.1)⟩⟩
theorem own_blockOf {w : World} {base e j cp b : Nat} {aa : Option Addr} {xs : List Value} (h : w.ownsRow base e 1 (.slice aa j cp) j xs) (hb : (Value.slice aa j cp).ownBlock = some b) : aa = some ⟨b, 0, none⟩ ∧ b < w.heap.size ∧ base ≤ b := by
  have := h.lt b hb
  rcases h.2 with ⟨e1, _⟩ | ⟨g, cap, cur, e1, _⟩
  · injection e1 with e1
    subst e1
    simp [Value.ownBlock] at hb
  · injection e1 with e1
    subst e1
    simp [Value.ownBlock] at hb
    subst hb
    exact ⟨rfl, this.2, this.1⟩

theorem own_frame {w w' : World} {b n : Nat} {e : TypeId} {v : Value} {xs : List Value} (h : w.ownsRow b e 1 v n xs) (hf : ∀ g, v.ownBlock = some g → w'.heap[g]? = w.heap[g]?) : w'.ownsRow b e 1 v n xs := by
  refine ⟨h.1, ?_⟩
  rcases h.2 with hn | ⟨g, cap, cur, rfl, hB, hg, rest⟩
  · exact Or.inl hn
  · exact Or.inr ⟨g, cap, cur, rfl, hB, by rw [hf g rfl]; exact hg, rest⟩
theorem k_round {w2 wr w4 w5 w7 : World} {cb j cp : Nat} {aa : Option Addr} {xs : List Value} {kids : List Gm} {g : Gm} {u : Value} {s : Int} {o : Obj} (hc : w2.heap.size ≤ cb) (hcb : wr.heap[cb]? = some (.cells #[.int .i64 0, .slice aa j cp, .int .i64 s] 125 (0, 0)))
    (ho : wr.ownsRow w2.heap.size 45 1 (.slice aa j cp) j xs) (hb : Below w2.heap.size w2 wr) (hk : KMade cb wr aa kids xs) (hg : kids[j]? = some g) (h4 : Below wr.heap.size wr w4) (hr : RepS w5 (Betw w4 w5) g u) (h5 : Below w4.heap.size w4 w5)
    (hp : Pushed (w5.alloc o) cb w2.heap.size aa j cp (.int .i64 s) xs u w7) : ∃ g' cap', w7.heap[cb]? = some (.cells #[.int .i64 0, .slice (some ⟨g', 0, none⟩) (j + 1) cap', .int .i64 s] 125 (0, 0)) ∧ w7.ownsRow w2.heap.size 45 1 (.slice (some ⟨g', 0, none⟩) (j + 1) cap') (j + 1) (xs ++ [u]) ∧ Below w2.heap.size w2 w7 ∧ KMade cb w7 (some ⟨g', 0, none⟩) kids (xs ++ [u]) := by
  obtain ⟨g', cap', w1, r1, r2, r3, r4, r5⟩ := hp
  obtain ⟨s1, s2, s3⟩ := setc_block r5 1 (.slice (some ⟨g', 0, none⟩) (j + 1) cap') (by show 1 < 3; decide)
  rw [← r4] at s1 s2 s3
  have e1 := hb.size
  have e2 := h4.size
  have e3 := h5.size
  have e4 : (w5.alloc o).heap.size = w5.heap.size + 1 := by simp
  have e5 := r2.size
  have hne := Lib.ownBlock_ne r1 r5 (by decide)
  have hkl : xs.length = j := by have := ho.1; omega
  refine ⟨g', cap', s1, own_frame r1 (fun gb hgb => s3 gb (fun e => hne (by rw [hgb, e]))), ?_, ?_⟩
  · have b1 := (hb.trans (h4.mono e1)).trans (h5.mono (by omega))
    have b2 := (b1.alloc (by omega) o).grown r2 (by omega) (fun k hk => (own_blockOf ho hk).2.2)
    exact b2.trans (s2.mono hc)
  · exact kmade_step (j := j) (cp := cp) hk hkl hg (lt_of_block hcb) h4 hr h5 r2 (fun b hb => s3 b hb) (by rw [r4]; simp [World.setCell]) r3 (fun b hb => ⟨(own_blockOf ho hb).1, (own_blockOf ho hb).2.1⟩)
theorem k_final {w w2 wr : World} {cb N cp : Nat} {aa : Option Addr} {xs : List Value} {kids : List Gm} {l s : Int} {f : List Nat} {e : List Int} {ee : List (List Int)} (hw : Below w.heap.size w w2) (hc : w2.heap.size ≤ cb) (hcb : wr.heap[cb]? = some (.cells #[.int .i64 0, .slice aa N cp, .int .i64 s] 125 (0, 0)))
    (ho : wr.ownsRow w2.heap.size 45 1 (.slice aa N cp) N xs) (hb : Below w2.heap.size w2 wr) (hk : KMade cb wr aa kids xs) (hN : N = kids.length) (h0 : N = 0 → aa = none ∧ cp = 0) :
    RepS (wr.setCell ⟨cb, 0, none⟩ (.int .i64 l)) (Betw w (wr.setCell ⟨cb, 0, none⟩ (.int .i64 l))) (.mk 7 l s f e ee kids) (.iface 88 (.pointer (some ⟨cb, 0, none⟩))) ∧ Below w.heap.size w (wr.setCell ⟨cb, 0, none⟩ (.int .i64 l)) := by
  obtain ⟨s1, s2, s3⟩ := setc_block hcb 0 (.int .i64 l) (by show 0 < 3; decide)
  have hsz : (wr.setCell ⟨cb, 0, none⟩ (.int .i64 l)).heap.size = wr.heap.size := by simp [World.setCell]
  generalize wr.setCell ⟨cb, 0, none⟩ (.int .i64 l) = w8 at *
  have e0 := hw.size
  have e1 := hb.size
  have hl := lt_of_block hcb
  have hkl : xs.length = N := by have := ho.1; omega
  refine ⟨?_, hw.trans ((hb.trans (s2.mono hc)).mono e0)⟩
  unfold RepS
  refine ⟨cb, rfl, ⟨by omega, by omega⟩, by rw [Lib.cell_of_heap s1]; rfl, fun h => absurd rfl h, fun h => absurd h (by decide), fun h => absurd h (by decide), fun _ => ⟨.slice aa N cp, xs, by rw [Lib.cell_of_heap s1]; rfl, ?_, by omega, ?_⟩⟩
  · have hne := Lib.ownBlock_ne ho hcb (by decide)
    exact ownS_of (w := w) (ownsRow_base (own_frame ho (fun gb hgb => s3 gb (fun e => hne (by rw [hgb, e])))) e0) (fun h => by obtain ⟨rfl, rfl⟩ := h0 h; rw [h])
  · intro i x g hg hx
    obtain ⟨S, a1, a2⟩ := hk i x g hx hg
    refine a1.frame _ _ _ _ (fun b hb => ⟨by have := (a2 b hb).1; omega, by have := (a2 b hb).2.1; omega⟩) (fun b hb => s3 b (by have := (a2 b hb).1; omega))

set_option maxRecDepth 100000 in
set_option maxHeartbeats 4000000 in
theorem mk7 (l s : Int) (f : List Nat) (e : List Int) (ee : List (List Int)) (kids : List Gm) (ih : ∀ g, g ∈ kids → MAns g) (hlay : l ≠ 0 → ∀ g, g ∈ kids → layoutT g = l) (hki : ∀ g, g ∈ kids → Kinds g) (hsa : ∀ g, g ∈ kids → Sane g) (hkl : kids.length ≤ 1000000) : MAns (.mk 7 l s f e ee kids) := by
  intro w B cs h hB
  rw [arep_eq] at h
  obtain ⟨vf, ve, vee, vk, rfl, hf, he, ⟨vs, hvs, _, _⟩, css, hrk, hcl, hkid⟩ := h
  obtain ⟨af, cf, hvf⟩ := hf.lit
  obtain ⟨ae, ce, hve⟩ := he.lit
  obtain ⟨aee, cee, hvee⟩ := hvs.lit
  obtain ⟨ak, ck, hvk⟩ := hrk.lit
  obtain ⟨nf, hnf⟩ : ∃ nf, nf = (f.map fv).length := ⟨_, rfl⟩
  obtain ⟨ne, hne⟩ : ∃ ne, ne = (e.map iv).length := ⟨_, rfl⟩
  obtain ⟨nee, hnee⟩ : ∃ nee, nee = vs.length := ⟨_, rfl⟩
  obtain ⟨N, hN⟩ : ∃ N, N = css.length := ⟨_, rfl⟩
  rw [← hnf] at hvf
  rw [← hne] at hve
  rw [← hnee] at hvee
  rw [← hN] at hvk hcl
  obtain ⟨W1, hW1⟩ : ∃ W1, W1 = w.alloc (.cells #[.int .i64 7, .int .i64 l, .int .i64 s, vf, ve, vee, vk] 27) := ⟨_, rfl⟩
  obtain ⟨b1, hb1⟩ : ∃ b1, b1 = w.heap.size := ⟨_, rfl⟩
  have hbox : Box W1 b1 7 l s vf ve vee vk := by unfold Box; rw [hW1, hb1]; exact heap_alloc_new w _
  have hwW : Below w.heap.size w W1 := by rw [hW1]; exact (Below.refl w.heap.size w).alloc (Nat.le_refl _) _
  have hsz : W1.heap.size = w.heap.size + 1 := by rw [hW1]; simp
  have hb1s : b1 < W1.heap.size := by omega
  have HF : Hid (∀ w', Below W1.heap.size W1 w' → Calls Tryz.prog 27 #[vf] w' fun e w2 => ∃ a c, e = .returned (.slice a nf c) ∧ w2.cell? ⟨b1, 1, none⟩ = some (.int .i64 l) ∧ w2.cell? ⟨b1, 3, none⟩ = some vf ∧ Hid (Below W1.heap.size W1 w2)) := Lib.hid (by
    intro w' hb
    refine (floatsCopy w' B vf (f.map fv) (hf.below ((hwW.trans (hb.mono (by omega))).mono hB)) (oneF f)).mono ?_
    rintro en w2 ⟨v', rfl, ho, hbl⟩
    obtain ⟨a, c, hv⟩ := ho.lit
    rw [← hnf] at hv
    subst hv
    have hb2 : Below W1.heap.size W1 w2 := hb.trans (hbl.mono hb.size)
    have hbx := hbox.below hb2 hb1s
    exact ⟨a, c, rfl, hbx.c1, hbx.c3, Lib.hid hb2⟩)
  have q0 := hbox.c0
  have q1 := hbox.c1
  have q3 := hbox.c3
  have HBX := Lib.hid hbox
  have HW := Lib.hid hwW
  have HS := Lib.hid hsz
  have HN := Lib.hid hN
  have HRK := Lib.hid hrk
  have HCL := Lib.hid hcl
  have HKI := Lib.hid hkid
  have HIH := Lib.hid ih
  have HLAY := Lib.hid hlay
  have HKD := Lib.hid hki
  have HSA := Lib.hid hsa
  have hN1 : N ≤ 1000000 := by omega
  clear hf he hnf hbox hwW hsz hne hnee hvs hN hrk hcl hkid ih hlay hki hsa hkl
  subst hvf
  subst hve
  subst hvee
  subst hvk
  go_enter Tryz.func17, Tryz.ntmps17
  go_upto_region 1 with (fail)
  rw [← hW1, ← hb1]
  have HB1 := Lib.hid hb1
  clear hW1 hb1
  go_cut [3, 4] (fun v3 v4 wx => ∃ a c, v3 = .int .i64 l ∧ v4 = .slice a nf c ∧ Hid (Below W1.heap.size W1 wx))
  case first =>
    go_region_with (go_at_call 27; refine (HF.out _ ?_).mono ?_; exact ⟨rfl, rfl, rfl, Nat.le_refl _, fun _ _ => rfl⟩; rintro en w2 ⟨a, c, rfl, d1, d3, HO⟩)
    all_goals
      go_wp2_with fail
      go_meet
      exact ⟨a, c, rfl, rfl, HO⟩
  case rest =>
    obtain ⟨a, c, rfl, rfl, HO⟩ := hcut
    generalize wc = w2 at *
    have hbox2 := HBX.out.below HO.out hb1s
    have r0 := hbox2.c0
    have r2 := hbox2.c2
    have hb12 : b1 < w2.heap.size := by have := HO.out.size; omega
    have HBX2 := Lib.hid hbox2
    clear q0 q1 q3 HF hbox2
    have HN45 : Hid (∀ w', Below w2.heap.size w2 w' → Calls Tryz.prog 45 #[] w' fun e w3 => ∃ ob, e = .returned (.pointer (some ⟨ob, 0, none⟩)) ∧ w3.cell? ⟨b1, 2, none⟩ = some (.int .i64 s) ∧ Hid (w2.heap.size ≤ ob ∧ w3.heap[ob]? = some (.cells #[.int .i64 0, .slice none 0 0, .int .i64 0] 125 (0, 0)) ∧ Below w2.heap.size w2 w3)) := Lib.hid (by
      intro w' hb
      refine (newColl w').mono ?_
      rintro en w3 ⟨rfl, rfl⟩
      have hbb : Below w2.heap.size w2 (w'.alloc (.cells #[.int .i64 0, .slice none 0 0, .int .i64 0] 125)) := hb.alloc hb.size _
      exact ⟨_, rfl, (HBX2.out.below hbb hb12).c2, Lib.hid ⟨hb.size, heap_alloc_new w' _, hbb⟩⟩)
    have HSR : Hid (∀ w3 ob, w3.heap[ob]? = some (.cells #[.int .i64 0, .slice none 0 0, .int .i64 0] 125 (0, 0)) → Calls Tryz.prog 46 #[.pointer (some ⟨ob, 0, none⟩), .int .i64 s] w3 fun e w4 => e = .returned (.pointer (some ⟨ob, 0, none⟩)) ∧ w4 = w3.setCell ⟨ob, 2, none⟩ (.int .i64 s)) := Lib.hid (by
      intro w3 ob hh
      exact sridColl w3 ob s (.int .i64 0) (by rw [Lib.cell_of_heap hh]; rfl) (Lib.frozen_of_heap hh 2))
    go_upto_region 18 with (fail)
    go_cut [5] (fun v5 wx => ∃ cb, v5 = .pointer (some ⟨cb, 0, none⟩) ∧ Hid (w2.heap.size ≤ cb ∧ wx.heap[cb]? = some (.cells #[.int .i64 0, .slice none 0 0, .int .i64 s] 125 (0, 0)) ∧ Below w2.heap.size w2 wx))
    case first =>
      go_region_with (first
        | (go_at_call 45; refine (HN45.out _ ?_).mono ?_; exact ⟨rfl, rfl, rfl, Nat.le_refl _, fun _ _ => rfl⟩; rintro en w3 ⟨ob, rfl, d2, HR⟩)
        | (go_at_call 46; refine (HSR.out _ _ ?_).mono ?_; exact HR.out.2.1; rintro en w4 ⟨rfl, rfl⟩))
      all_goals
        go_wp2_with fail
        go_meet
        obtain ⟨o1, o2, o3⟩ := HR.out
        obtain ⟨s1, s2, s3⟩ := setc_block o2 2 (.int .i64 s) (by show 2 < 3; decide)
        exact ⟨ob, rfl, Lib.hid ⟨o1, s1, o3.trans (s2.mono o1)⟩⟩
    case rest =>
      obtain ⟨cb, rfl, HC⟩ := hcut
      generalize wc = w3 at *
      have hbox3 := HBX2.out.below HC.out.2.2 hb12
      have r1' := hbox3.c1
      have r6 := hbox3.c6
      have hb13 : b1 < w3.heap.size := by have := HC.out.2.2.size; omega
      clear r0 r2 HN45 HSR hbox3
      go_wp2_with fail
      go_loopg [101] N (fun g v101 wr => ∃ (j : Nat) (aa : Option Addr) (cp : Nat) (xs : List Value), j + g = N ∧ v101 = .int .i64 j ∧ Hid (wr.heap[cb]? = some (.cells #[.int .i64 0, .slice aa j cp, .int .i64 s] 125 (0, 0))) ∧ Hid (wr.ownsRow w2.heap.size 45 1 (.slice aa j cp) j xs) ∧ Hid (Below w2.heap.size w2 wr) ∧ Hid (KMade cb wr aa kids xs) ∧ Hid (j = 0 → aa = none ∧ cp = 0))
      case atStart => exact ⟨0, none, 0, [], by omega, rfl, Lib.hid HC.out.2.1, Lib.hid (row_none _ _ _), Lib.hid HC.out.2.2, Lib.hid (fun i x g hx => by simp at hx), Lib.hid (fun _ => ⟨rfl, rfl⟩)⟩
      case round =>
        clear r1' r6 hb13
        obtain ⟨j, aa, cp, xs, hj, rfl, HCB, HO2, HB2, HKM, HJ0⟩ := hrel
        have hboxr := HBX2.out.below HB2.out hb12
        have hb1r : b1 < wr.heap.size := by have := HB2.out.size; omega
        by_cases hjN : j < N
        · obtain ⟨kb, ko, hak, hkB, hcell⟩ : ∃ kb ko, ak = some ⟨kb, ko, none⟩ ∧ kb < B ∧ ∀ j cs, css[j]? = some cs → ∀ i u, cs[i]? = some u → w.cell? ⟨kb, ko + j * 7 + i, none⟩ = some u := by
            obtain ⟨a', c', e1, _, _, _, e5⟩ := HRK.out
            injection e1 with e1 _ _
            subst e1
            exact e5 (by intro h; rw [h] at HN; have := HN.out; simp at this; omega)
          subst hak
          obtain ⟨g, hg⟩ : ∃ g, kids[j]? = some g := ⟨_, List.getElem?_eq_getElem (by rw [← HCL.out]; exact hjN)⟩
          obtain ⟨cj, hcj⟩ : ∃ cj, css[j]? = some cj := ⟨_, List.getElem?_eq_getElem (by rw [← HN.out]; exact hjN)⟩
          have hgm := List.mem_of_getElem? hg
          have har := HKI.out j cj g hg hcj
          have hmk := HIH.out g hgm
          have HG := Lib.hid hg
          have hwr : Below B w wr := (HW.out.trans ((HO.out.trans (HB2.out.mono HO.out.size)).mono (by have := HS.out; omega))).mono hB
          have hBr : B ≤ wr.heap.size := by have := HO.out.size; have := HB2.out.size; have := HS.out; omega
          have hcel := hcell j cj hcj
          obtain ⟨c0, c1, c2, c3, c4, c5, c6, hcj'⟩ : ∃ c0 c1 c2 c3 c4 c5 c6, cj = [c0, c1, c2, c3, c4, c5, c6] := by
            cases g
            rw [arep_eq] at har
            obtain ⟨vf, ve, vee, vk, e, _⟩ := har
            exact ⟨_, _, _, _, _, _, _, e⟩
          obtain ⟨kj, lj, sj, a3, n3, p3, a4, n4, p4, a5, n5, p5, a6, n6, p6, e0, e1, e2, e3, e4, e5, e6⟩ : ∃ kj lj sj a3 n3 p3 a4 n4 p4 a5 n5 p5 a6 n6 p6, c0 = .int .i64 kj ∧ c1 = .int .i64 lj ∧ c2 = .int .i64 sj ∧ c3 = .slice a3 n3 p3 ∧ c4 = .slice a4 n4 p4 ∧ c5 = .slice a5 n5 p5 ∧ c6 = .slice a6 n6 p6 := by
            cases g
            rw [arep_eq, hcj'] at har
            obtain ⟨vf, ve, vee, vk, e, hf, he, ⟨vs, hvs, _⟩, css', hrk, _⟩ := har
            obtain ⟨a3, p3, h3⟩ := hf.lit
            obtain ⟨a4, p4, h4⟩ := he.lit
            obtain ⟨a5, p5, h5⟩ := hvs.lit
            obtain ⟨a6, p6, h6⟩ := hrk.lit
            simp only [List.cons.injEq, and_true] at e
            obtain ⟨e0, e1, e2, e3, e4, e5, e6⟩ := e
            exact ⟨_, _, _, a3, _, p3, a4, _, p4, a5, _, p5, a6, _, p6, e0, e1, e2, e3.trans h3, e4.trans h4, e5.trans h5, e6.trans h6⟩
          subst e0 e1 e2 e3 e4 e5 e6
          have HM : Hid (∀ w4, Below wr.heap.size wr w4 → Calls Tryz.prog 17 #[.agg #[.int .i64 kj, .int .i64 lj, .int .i64 sj, .slice a3 n3 p3, .slice a4 n4 p4, .slice a5 n5 p5, .slice a6 n6 p6]] w4 fun e w5 => ∃ T q, e = .returned (.iface T (.pointer (some ⟨q, 0, none⟩))) ∧ Hid (RepS w5 (Betw w4 w5) g (.iface T (.pointer (some ⟨q, 0, none⟩))) ∧ Below w4.heap.size w4 w5)) := Lib.hid (by
            intro w4 hb
            have := hmk w4 wr.heap.size cj (ARep.below (hwr.trans (hb.mono hBr)) hBr g cj har) hb.size
            rw [hcj'] at this
            refine this.mono ?_
            rintro en w5 ⟨u, rfl, hr, hbl⟩
            obtain ⟨T, q, hu⟩ : ∃ T q, u = .iface T (.pointer (some ⟨q, 0, none⟩)) := by
              cases g
              unfold RepS at hr
              obtain ⟨q, e, _⟩ := hr
              exact ⟨_, q, e⟩
            subst hu
            exact ⟨T, q, rfl, Lib.hid ⟨hr, hbl⟩⟩)
          rw [hcj'] at hcel
          have d0 : wr.cell? ⟨kb, ko + j * 7, none⟩ = some (.int .i64 kj) := by rw [hwr.cell hkB]; exact hcel 0 _ rfl
          have d1 : wr.cell? ⟨kb, ko + j * 7 + 1, none⟩ = some (.int .i64 lj) := by rw [hwr.cell hkB]; exact hcel 1 _ rfl
          have d2 : wr.cell? ⟨kb, ko + j * 7 + 2, none⟩ = some (.int .i64 sj) := by rw [hwr.cell hkB]; exact hcel 2 _ rfl
          have d3 : wr.cell? ⟨kb, ko + j * 7 + 3, none⟩ = some (.slice a3 n3 p3) := by rw [hwr.cell hkB]; exact hcel 3 _ rfl
          have d4 : wr.cell? ⟨kb, ko + j * 7 + 4, none⟩ = some (.slice a4 n4 p4) := by rw [hwr.cell hkB]; exact hcel 4 _ rfl
          have d5 : wr.cell? ⟨kb, ko + j * 7 + 5, none⟩ = some (.slice a5 n5 p5) := by rw [hwr.cell hkB]; exact hcel 5 _ rfl
          have d6 : wr.cell? ⟨kb, ko + j * 7 + 6, none⟩ = some (.slice a6 n6 p6) := by rw [hwr.cell hkB]; exact hcel 6 _ rfl
          have HKB : Hid (kb < wr.heap.size) := Lib.hid (by omega)
          clear hcel hcj' hcj har hmk hgm hg hcell hwr hboxr
          go_wp2_with fail
          have hb4 : Below wr.heap.size wr (wr.alloc (.cells #[.int .i64 kj, .int .i64 lj, .int .i64 sj, .slice a3 n3 p3, .slice a4 n4 p4, .slice a5 n5 p5, .slice a6 n6 p6] 27)) := (Below.refl _ _).alloc (Nat.le_refl _) _
          refine (HM.out _ hb4).mono ?_
          rintro en w5 ⟨T, q, rfl, HR⟩
          have HB4 := Lib.hid hb4
          clear hb4 d0 d1 d2 d3 d4 d5 d6 HM
          generalize wr.alloc _ = w4 at *
          have HP : Hid (Calls Tryz.prog 47 #[.pointer (some ⟨cb, 0, none⟩), .slice (some ⟨w5.heap.size, 0, none⟩) 1 1] (w5.alloc (.cells #[.iface T (.pointer (some ⟨q, 0, none⟩))] 45)) fun e w7 => e = .returned (.pointer (some ⟨cb, 0, none⟩)) ∧ Pushed (w5.alloc (.cells #[.iface T (.pointer (some ⟨q, 0, none⟩))] 45)) cb w2.heap.size aa j cp (.int .i64 s) xs (.iface T (.pointer (some ⟨q, 0, none⟩))) w7) := Lib.hid (by
            have g1 := HB4.out.size
            have g2 := HR.out.2.size
            have g3 := HB2.out.size
            have hw45 : Below wr.heap.size wr w5 := HB4.out.trans (HR.out.2.mono g1)
            have hw46 := hw45.alloc (by omega) (.cells #[.iface T (.pointer (some ⟨q, 0, none⟩))] 45)
            refine mustPush _ _ _ _ (pushC _ cb w5.heap.size w2.heap.size aa j cp (.int .i64 s) xs _ ?_ (own_below HO2.out hw46) (by rw [Lib.cell_of_heap (heap_alloc_new w5 _)]; rfl) rfl (by omega) (by simp; omega))
            rw [hw46.block cb (lt_of_block HCB.out)]
            exact HCB.out)
          go_wp2_with fail
          refine HP.out.mono ?_
          rintro en w7 ⟨rfl, hpu⟩
          have HPU := Lib.hid (k_round HC.out.1 HCB.out HO2.out HB2.out HKM.out HG.out HB4.out HR.out.1 HR.out.2 hpu)
          clear HP hpu HR HB4
          go_wp2_with fail
          go_roundg (gk - 1)
          case measure => omega
          case rel =>
            obtain ⟨g', cap', p1, p2, p3, p4⟩ := HPU.out
            exact ⟨j + 1, _, _, _, by omega, by go_num, Lib.hid p1, Lib.hid p2, Lib.hid p3, Lib.hid p4, Lib.hid (fun h => absurd h (by omega))⟩
        · obtain rfl : j = N := by omega
          have hkl : xs.length = j := by have := HO2.out.1; omega
          have HJK : Hid (j = kids.length) := Lib.hid HCL.out
          have HML : Hid (Calls Tryz.prog 48 #[.pointer (some ⟨cb, 0, none⟩), .int .i64 l] wr fun e w' => e = .returned (.pointer (some ⟨cb, 0, none⟩)) ∧ w' = wr.setCell ⟨cb, 0, none⟩ (.int .i64 l)) := Lib.hid (by
            refine mustSetLay wr cb l (.int .i64 0) (by rw [Lib.cell_of_heap HCB.out]; rfl) (Lib.frozen_of_heap HCB.out 0) (checkLay wr wr.heap.size cb l aa j cp kids HJK.out (by omega) (by rw [Lib.cell_of_heap HCB.out]; rfl) ?_ ?_ ?_)
            · rcases HO2.out.2 with ⟨e1, e2⟩ | ⟨g, cap, cur, e1, _, _, e2, _⟩
              · omega
              · injection e1 with _ _ e3; omega
            · rcases HO2.out.2 with ⟨e1, e2⟩ | ⟨g, cap, cur, e1, _⟩
              · exact Or.inl e2
              · injection e1 with e1; exact Or.inr ⟨g, e1⟩
            · intro i g hg
              have hgm := List.mem_of_getElem? hg
              have hi : i < j := by rw [HJK.out]; exact (List.getElem?_eq_some_iff.1 hg).1
              obtain ⟨x, hx⟩ : ∃ x, xs[i]? = some x := ⟨_, List.getElem?_eq_getElem (by omega)⟩
              obtain ⟨S, a1, a2⟩ := HKM.out i x g hx hg
              obtain ⟨q, hq⟩ : ∃ q, x = .iface (tyOf g.kind) (.pointer (some ⟨q, 0, none⟩)) := by
                cases g
                unfold RepS at a1
                obtain ⟨q, e, _⟩ := a1
                exact ⟨q, e⟩
              refine ⟨HKD.out g hgm, fun hl => HLAY.out hl g hgm, x, q, hq, a1.rep _ _ _ (fun b hb => (a2 b hb).2.1) (HSA.out g hgm), fun gb hgb => ?_⟩
              subst hgb
              rw [HO2.out.cellAt i (by omega)]
              exact hx)
          go_wp2_with fail
          refine HML.out.mono ?_
          rintro en w' ⟨rfl, rfl⟩
          have HFI := Lib.hid (k_final (l := l) (s := s) (f := f) (e := e) (ee := ee) (HW.out.trans (HO.out.mono (by have := HS.out; omega))) HC.out.1 HCB.out HO2.out HB2.out HKM.out HJK.out HJ0.out)
          generalize wr.setCell ⟨cb, 0, none⟩ (.int .i64 l) = w8 at *
          go_wp2_with fail
          go_ret
          exact ⟨_, rfl, HFI.out.1, HFI.out.2⟩
end Go.Proofs.YtlmilelopajdiaaGreatDoor

/-
  impl.geometry at every geometry.
-/
namespace Go.Proofs.YtlmilelopajdiaaGreatDoor
open Go.RowKit

/-- What making an object wants. -/
def Mk : Gm → Prop
  | .mk k l _ f e _ kids => (k = 4 → e = [] → f = []) ∧ (k = 7 → l ≠ 0 → ∀ g (_ : g ∈ kids), layoutT g = l) ∧ ∀ g (_h : g ∈ kids), Mk g
termination_by g => SizeOf.sizeOf g
decreasing_by
  have := List.sizeOf_lt_of_mem _h
  simp only [Gm.mk.sizeOf_spec]
  omega
theorem mk_eq (k l s : Int) (f : List Nat) (e : List Int) (ee : List (List Int)) (kids : List Gm) : Mk (.mk k l s f e ee kids) ↔ (k = 4 → e = [] → f = []) ∧ (k = 7 → l ≠ 0 → ∀ g, g ∈ kids → layoutT g = l) ∧ ∀ g, g ∈ kids → Mk g := by
  rw [Mk]
theorem mAns : ∀ g, Fit g → Sane g → Mk g → MAns g := by
  intro g
  induction g using Gm.ind with
  | h k l s f e ee kids ih =>
    intro hf hs hm
    rw [fit_eq] at hf
    rw [sane_eq] at hs
    rw [mk_eq] at hm
    obtain ⟨f1, f2, f3, f4, f5⟩ := hf
    obtain ⟨s1, s2, s3, s4, s5, s6, s7, s8, s9⟩ := hs
    obtain ⟨m1, m2, m3⟩ := hm
    have hk8 : k = 1 ∨ k = 2 ∨ k = 3 ∨ k = 4 ∨ k = 5 ∨ k = 6 ∨ k = 7 ∨ k = 8 := by omega
    rcases hk8 with rfl | rfl | rfl | rfl | rfl | rfl | rfl | rfl
    · exact mk1 _ _ _ _ _ _
    · exact mk2 _ _ _ _ _ _
    · exact mk3 _ _ _ _ _ _
    · exact mk4 _ _ _ _ _ _ (m1 rfl)
    · exact mk5 _ _ _ _ _ _
    · exact mk6 _ _ _ _ _ _
    · exact mk7 l s f e ee kids (fun g hg => ih g hg (f5 g hg) (s9 g hg) (m3 g hg)) (m2 rfl) (fun g hg => fit_kinds g (f5 g hg)) s9 s6
    · exact mk8 _ _ _ _ _ _
end Go.Proofs.YtlmilelopajdiaaGreatDoor
