/-
  The statement's side: a part of a geometry of areas (kind 6).
-/
import Derived.Test.YtlmilelopajdiaaGreatDoorUH9
namespace Go.Proofs.YtlmilelopajdiaaGreatDoor
open Go.RowKit

/-- What Part answers at kind 6. -/
def P6Out (l : Int) (F E : List Value) (w : World) (e' : Ending) (w' : World) : Prop := ∃ vF vE, e' = .returned (.agg #[.int .i64 3, .int .i64 l, .int .i64 0, vF, vE, .slice none 0 0, .slice none 0 0]) ∧ OwnT w w' vF F ∧ OwnT w w' vE E ∧ Below w.heap.size w w'
/-- Where the numbers of an area lie. -/
def AreaAt (w : World) (b5 o5 : Nat) (ee : List (List Int)) (j : Nat) : Prop := ∃ (es : List Int) (a : Option Addr) (n c : Nat), ee[j]? = some es ∧ n = es.length ∧ w.cell? ⟨b5, o5 + j, none⟩ = some (.slice a n c) ∧ n ≤ c ∧ n ≤ 1000000000 ∧ c ≤ 9223372036854775807 ∧ (n ≠ 0 → ∃ b o, a = some ⟨b, o, none⟩ ∧ b < w.heap.size ∧ ∀ (k : Nat) x, es[k]? = some x → w.cell? ⟨b, o + k, none⟩ = some (.int .i64 x))
theorem heap3C (w : World) (A P E : Obj) : (((w.alloc A).alloc P).alloc E).heap[w.heap.size + 1 + 1]? = some E := by
  have h : ((w.alloc A).alloc P).heap.size = w.heap.size + 1 + 1 := by simp
  rw [← h]
  exact heap_alloc_new _ E
/-- What loop 2 has made. -/
def Made6 (w wr : World) (A P : Obj) (l lo : Int) (es : List Int) (j : Nat) (a9 : Option Addr) (c9 : Nat) : Prop :=
  wr.heap[w.heap.size + 1 + 1]? = some (.cells #[.int .i64 3, .int .i64 l, .int .i64 0, .slice none 0 0, .slice a9 j c9, .slice none 0 0, .slice none 0 0] 27 (0, 0)) ∧ wr.ownsRow (w.heap.size + 1 + 1 + 1) 3 1 (.slice a9 j c9) j ((es.take j).map fun x => iv (x - lo)) ∧
  Below (w.heap.size + 1 + 1) ((w.alloc A).alloc P) wr ∧ w.heap.size + 1 + 1 + 1 ≤ wr.heap.size
theorem made6_step {w wr w1 : World} {A P : Obj} {l lo : Int} {es : List Int} {j : Nat} {a9 : Option Addr} {c9 : Nat} {v'' : Value} {x : Int} {C : Obj} (h : Made6 w wr A P l lo es j a9 c9) (hx : es[j]? = some x) (hown : w1.ownsRow (w.heap.size + 1 + 1 + 1) 3 1 v'' (j + 1) (((es.take j).map fun x => iv (x - lo)) ++ [.int .i64 (x - lo)]))
    (hg : (wr.alloc C).grownBy w1 (Value.slice a9 j c9).ownBlock) : ∃ a c, v'' = .slice a (j + 1) c ∧ w1.cell? ⟨w.heap.size + 1 + 1, 4, none⟩ = some (.slice a9 j c9) ∧ w1.frozen? ⟨w.heap.size + 1 + 1, 4, none⟩ = false ∧ Made6 w (w1.setCell ⟨w.heap.size + 1 + 1, 4, none⟩ (.slice a (j + 1) c)) A P l lo es (j + 1) a c := by
  obtain ⟨h1, h2, h3, h4⟩ := h
  obtain ⟨g, c, hv⟩ : ∃ g c, v'' = .slice (some ⟨g, 0, none⟩) (j + 1) c := by
    rcases hown.2 with ⟨e1, e2⟩ | ⟨g, cap, cur, e1, _⟩
    · exact absurd e2 (by omega)
    · exact ⟨_, cap, e1⟩
  subst hv
  have hP : w1.heap[w.heap.size + 1 + 1]? = some (.cells #[.int .i64 3, .int .i64 l, .int .i64 0, .slice none 0 0, .slice a9 j c9, .slice none 0 0, .slice none 0 0] 27 (0, 0)) := by
    rw [hg.block _ (by simp; omega) (fun e => Lib.ownBlock_ne h2 h1 (by decide) e.symm), Below.heap_alloc wr C _ (by omega)]; exact h1
  refine ⟨_, _, rfl, by rw [Lib.cell_of_heap hP]; rfl, Lib.frozen_of_heap hP 4, ?_, ?_, ?_, ?_⟩
  · exact heap_setCell_same w1 _ 4 _ 27 _ hP
  · have he : (es.take (j + 1)).map (fun x => iv (x - lo)) = ((es.take j).map fun x => iv (x - lo)) ++ [.int .i64 (x - lo)] := by
      rw [List.take_add_one, hx, List.map_append]; rfl
    rw [he]
    exact ownsRow_setCell_below hown (by show w.heap.size + 1 + 1 < _; omega) _
  · have hs := hg.size
    have hs2 : (wr.alloc C).heap.size = wr.heap.size + 1 := by simp
    refine Below.setCell (p := ⟨w.heap.size + 1 + 1, 4, none⟩) ?_ (Nat.le_refl _) _
    exact (h3.alloc (by omega) C).grown hg (by omega) (fun k hk => by
      rcases h2.2 with ⟨e1, _⟩ | ⟨g, cap, cur, e1, e2, _⟩
      · rw [e1] at hk; cases hk
      · rw [e1] at hk
        have hk : g = k := by injection hk
        omega)
  · have hs := hg.size
    have hs2 : (wr.alloc C).heap.size = wr.heap.size + 1 := by simp
    simp
    omega
theorem own_frameB {w w' : World} {base : Nat} {e : TypeId} {v : Value} {n : Nat} {xs : List Value} (h : w.ownsRow base e 1 v n xs) (hf : ∀ b, base ≤ b → b < w.heap.size → w'.heap[b]? = w.heap[b]?) : w'.ownsRow base e 1 v n xs := by
  obtain ⟨h1, h2⟩ := h
  refine ⟨h1, ?_⟩
  rcases h2 with h2 | ⟨g, cap, cur, hv, hg, hh, r⟩
  · exact Or.inl h2
  · exact Or.inr ⟨g, cap, cur, hv, hg, by rw [hf g hg (lt_of_block hh)]; exact hh, r⟩
theorem own_slice {w : World} {base : Nat} {e : TypeId} {v : Value} {n : Nat} {xs : List Value} (h : w.ownsRow base e 1 v (0 + n) xs) : ∃ a c, v = .slice a n c := by
  rw [Nat.zero_add] at h
  obtain ⟨_, ⟨h1, h2⟩ | ⟨g, cap, _, h1, _⟩⟩ := h
  · subst h2; exact ⟨_, _, h1⟩
  · exact ⟨_, _, h1⟩
theorem grown_refl (w : World) (r : Option Nat) : w.grownBy w r := ⟨rfl, rfl, rfl, Nat.le_refl _, fun _ _ _ => rfl⟩
theorem own_empty (w : World) (e : TypeId) : (w.alloc (.cells #[] e)).ownsRow w.heap.size e 1 (.slice (some ⟨w.heap.size, 0, none⟩) 0 0) 0 [] :=
  ⟨rfl, Or.inr ⟨w.heap.size, 0, #[], rfl, Nat.le_refl _, heap_alloc_new _ _, Nat.le_refl _, Nat.zero_le _, rfl, rfl⟩⟩
theorem row_of_own {w : World} {base : Nat} {e : TypeId} {v : Value} {n : Nat} {xs : List Value} (h : w.ownsRow base e 1 v n xs) (hn : n ≤ 1000000000) : Row w w.heap.size v xs := by
  obtain ⟨hl, h | ⟨g, cap, cur, h1, h2, h3, h4, h5, h6, h7⟩⟩ := h
  · obtain ⟨h1, h2⟩ := h
    subst h2
    have : xs = [] := List.length_eq_zero_iff.1 (by omega)
    subst this
    exact ⟨none, 0, h1, Nat.le_refl _, ⟨Nat.zero_le _, Nat.zero_le _⟩, fun _ => ⟨rfl, rfl⟩, fun h => absurd rfl h⟩
  · have hnl : n = xs.length := by omega
    subst hnl
    refine ⟨some ⟨g, 0, none⟩, cap, h1, h4, ⟨hn, by unfold maxLen at h5; omega⟩, fun h => (by cases h), fun _ => ⟨g, 0, rfl, lt_of_block h3, fun j u hu => ?_⟩⟩
    rw [Lib.cell_of_heap h3, Nat.zero_add]
    rw [← h7, List.getElem?_take] at hu
    split at hu
    · rw [← hu]; simp
    · cases hu
/-- What is there before the last store. -/
def Done6 (w W : World) (l : Int) (vF vE : Value) (nF nE : Nat) (F E : List Value) : Prop :=
  W.heap[w.heap.size + 1 + 1]? = some (.cells #[.int .i64 3, .int .i64 l, .int .i64 0, vF, vE, .slice none 0 0, .slice none 0 0] 27 (0, 0)) ∧ W.heap[w.heap.size + 1]? = some (.cells #[.int .i64 0, .int .i64 0, .int .i64 0, .slice none 0 0, .slice none 0 0, .slice none 0 0, .slice none 0 0] 27 (0, 0)) ∧
  W.ownsRow (w.heap.size + 1 + 1 + 1) 32 1 vF nF F ∧ W.ownsRow (w.heap.size + 1 + 1 + 1) 3 1 vE nE E ∧ Below w.heap.size w W
theorem made6_done {w wr w1 : World} {A : Obj} {l lo : Int} {es : List Int} {n m : Nat} {a9 : Option Addr} {c9 : Nat} {vF : Value} {F : List Value} (h : Made6 w wr A (.cells #[.int .i64 0, .int .i64 0, .int .i64 0, .slice none 0 0, .slice none 0 0, .slice none 0 0, .slice none 0 0] 27) l lo es n a9 c9) (hn : n = es.length)
    (hown : w1.ownsRow wr.heap.size 32 1 vF (0 + m) ([] ++ F)) (hg : (wr.alloc (.cells #[] 32)).grownBy w1 (some wr.heap.size)) :
    w1.cell? ⟨w.heap.size + 1 + 1, 3, none⟩ = some (.slice none 0 0) ∧ w1.frozen? ⟨w.heap.size + 1 + 1, 3, none⟩ = false ∧ Done6 w (w1.setCell ⟨w.heap.size + 1 + 1, 3, none⟩ vF) l vF (.slice a9 n c9) m n F (es.map fun x => iv (x - lo)) := by
  obtain ⟨h1, h2, h3, h4⟩ := h
  have hfr : ∀ b, b < wr.heap.size → w1.heap[b]? = wr.heap[b]? := fun b hb => by
    rw [hg.block b (by simp; omega) (by simp; omega), Below.heap_alloc _ _ _ hb]
  have hP : w1.heap[w.heap.size + 1 + 1]? = some (.cells #[.int .i64 3, .int .i64 l, .int .i64 0, .slice none 0 0, .slice a9 n c9, .slice none 0 0, .slice none 0 0] 27 (0, 0)) := by
    rw [hfr _ (by omega)]; exact h1
  have hR : w1.heap[w.heap.size + 1]? = some (.cells #[.int .i64 0, .int .i64 0, .int .i64 0, .slice none 0 0, .slice none 0 0, .slice none 0 0, .slice none 0 0] 27 (0, 0)) := by
    rw [hfr _ (by omega), h3.block _ (by omega)]; exact heap_alloc2_new _ _ _
  rw [List.take_of_length_le (by omega)] at h2
  rw [Nat.zero_add, List.nil_append] at hown
  refine ⟨by rw [Lib.cell_of_heap hP]; rfl, Lib.frozen_of_heap hP 3, heap_setCell_same w1 _ 3 _ 27 _ hP, ?_, ?_, ?_, ?_⟩
  · rw [heap_setCell_other _ _ _ _ (by simp)]; exact hR
  · exact ownsRow_setCell_below (ownsRow_base hown (by omega)) (by show w.heap.size + 1 + 1 < _; omega) _
  · refine ownsRow_setCell_below (own_frameB h2 fun b _ hb => hfr b hb) (by show w.heap.size + 1 + 1 < _; omega) _
  · refine Below.setCell (p := ⟨w.heap.size + 1 + 1, 3, none⟩) ?_ (by show _ ≤ w.heap.size + 1 + 1; omega) _
    exact (((((Below.refl _ _).alloc (Nat.le_refl _) _).alloc (by simp) _).trans (h3.mono (by omega))).alloc (by omega) _).grown hg (by simp; omega) (fun k hk => by cases hk; omega)
theorem own_base {w W : World} {e : TypeId} {v : Value} {n : Nat} {xs : List Value} (h : W.ownsRow (w.heap.size + 1 + 1 + 1) e 1 v n xs) : ∀ b, v.ownBlock = some b → w.heap.size ≤ b := by
  intro b hb
  obtain ⟨_, ⟨h1, _⟩ | ⟨g, cap, cur, h1, h2, _⟩⟩ := h
  · rw [h1] at hb; cases hb
  · rw [h1] at hb
    have hb : g = b := by injection hb
    omega
theorem done6_out {w W : World} {l : Int} {vF vE : Value} {nF nE : Nat} {F E : List Value} (h : Done6 w W l vF vE nF nE F E) (h1 : nF ≤ 1000000000) (h2 : nE ≤ 1000000000) (C : Array Value) :
    OwnT w (W.setRow (w.heap.size + 1) C) vF F ∧ OwnT w (W.setRow (w.heap.size + 1) C) vE E ∧ Below w.heap.size w (W.setRow (w.heap.size + 1) C) := by
  obtain ⟨_, _, q1, q2, q3⟩ := h
  refine ⟨⟨row_of_own (own_frameB q1 fun b hb _ => setRow_other _ _ _ _ (by omega)) h1, own_base q1⟩, ⟨row_of_own (own_frameB q2 fun b hb _ => setRow_other _ _ _ _ (by omega)) h2, own_base q2⟩, ?_⟩
  exact q3.trans ⟨rfl, rfl, rfl, by simp, fun k hk => setRow_other _ _ _ _ (by omega)⟩

set_option maxRecDepth 100000 in
set_option maxHeartbeats 4000000 in
theorem p6_pos (w : World) (b5 o5 N p5 n4 p4 n6 p6 : Nat) (l s : Int) (a4 a6 : Option Addr) (fb fo n3 p3 lo m : Nat) (ee : List (List Int)) (i : Nat) (hi : i < N) (_hN9 : N ≤ 1000000000) (hN5 : N ≤ p5) (hp5 : p5 ≤ 9223372036854775807) (hb5 : b5 < w.heap.size) (hE : ∀ j, j < N → AreaAt w b5 o5 ee j) (hn3 : n3 ≤ p3) (hn39 : n3 ≤ 1000000000) (_hp3 : p3 ≤ 9223372036854775807) (hm : 0 < m) (hlo : lo + m ≤ n3) (es : List Int) (he : ee[i]? = some es) (htl : tJ ee i = ((lo : Nat) : Int)) (hth : tJ ee (i + 1) = ((lo + m : Nat) : Int)) (hx : ∀ x ∈ es, ((lo : Nat) : Int) ≤ x ∧ x ≤ 1000000000) (vals : List Value) (hv1 : ∀ u ∈ vals, u.oneCell' = true) (hvl : vals.length = m) (hvc : ∀ w', Below w.heap.size w w' → ∀ (j : Nat) (u : Value), vals[j]? = some u → w'.cell? ((⟨fb, fo + lo, none⟩ : Addr).add j) = some u) :
    Calls Tryz.prog 51 #[.agg #[.int .i64 6, .int .i64 l, .int .i64 s, .slice (some ⟨fb, fo, none⟩) n3 p3, .slice a4 n4 p4, .slice (some ⟨b5, o5, none⟩) N p5, .slice a6 n6 p6], .int .i64 (i : Nat)] w fun e' w' => P6Out l vals (es.map fun x => iv (x - lo)) w e' w' := by
  obtain ⟨i0, hi0, hz0, hz1, hz2⟩ := info_parts info3
  have HVC := Lib.hid hvc
  have HVL := Lib.hid hvl
  have HV1 := Lib.hid hv1
  have HE := Lib.hid hE
  have HEI := Lib.hid he
  have HTL := Lib.hid htl
  have HTH := Lib.hid hth
  have HX := Lib.hid hx
  have HZ := Lib.hid hz0
  clear hv1 hvc hvl hE he htl hth hx hz0
  go_enter Tryz.func51, Tryz.ntmps51
  go_wp2_with fail
  go_loopg [5, 30] i (fun g v5 v30 wr => ∃ (k : Nat) (p : Int), k + g = i ∧ v5 = .int .i64 p ∧ v30 = .int .i64 k ∧ wr = (w.alloc (.cells #[.int .i64 6, .int .i64 l, .int .i64 s, .slice (some ⟨fb, fo, none⟩) n3 p3, .slice a4 n4 p4, .slice (some ⟨b5, o5, none⟩) N p5, .slice a6 n6 p6] 27)).alloc (.cells #[.int .i64 0, .int .i64 0, .int .i64 0, .slice none 0 0, .slice none 0 0, .slice none 0 0, .slice none 0 0] 27) ∧ Hid (p = tJ ee k))
  case atStart => exact ⟨0, 0, by omega, rfl, rfl, rfl, Lib.hid (by simp [tJ])⟩
  case round =>
    obtain ⟨k, p, hk, rfl, rfl, rfl, HP⟩ := hrel
    by_cases hki : k < i
    · obtain ⟨es', a, n, c, hes, hn, hc, hnc, hn9, hc9, hcl⟩ := HE.out k (by omega)
      have hc' : ((w.alloc (.cells #[.int .i64 6, .int .i64 l, .int .i64 s, .slice (some ⟨fb, fo, none⟩) n3 p3, .slice a4 n4 p4, .slice (some ⟨b5, o5, none⟩) N p5, .slice a6 n6 p6] 27)).alloc (.cells #[.int .i64 0, .int .i64 0, .int .i64 0, .slice none 0 0, .slice none 0 0, .slice none 0 0, .slice none 0 0] 27)).cell? ⟨b5, o5 + k, none⟩ = some (.slice a n c) := by
        rw [Below.cell (B := w.heap.size) (((Below.refl _ _).alloc (Nat.le_refl _) _).alloc (by simp) _) hb5]; exact hc
      have hkN : k < N := by omega
      have HTK : Hid (∀ h : k < ee.length, ee[k] = es') := Lib.hid (fun h => by rw [List.getElem?_eq_getElem h] at hes; exact Option.some.inj hes)
      have HKL : Hid (k < ee.length) := Lib.hid (List.getElem?_eq_some_iff.1 hes).1
      by_cases hn0 : n = 0
      · subst hn0
        have HP' : Hid (p = tJ ee (k + 1)) := Lib.hid (by rw [tJ_succ ee k HKL.out, HTK.out, ← hn, HP.out]; rfl)
        clear hc hcl hes hn HTK HKL HE HX HVC HVL HTL HTH HEI
        go_wp2_with fail
        go_roundg (gk - 1)
        case measure => omega
        case rel => exact ⟨k + 1, p, by omega, rfl, by go_num, rfl, HP'⟩
      · obtain ⟨b, o, rfl, hb, hcl'⟩ := hcl hn0
        obtain ⟨x, hx⟩ : ∃ x, es'[n - 1]? = some x := ⟨_, List.getElem?_eq_getElem (by omega)⟩
        have hcx : ((w.alloc (.cells #[.int .i64 6, .int .i64 l, .int .i64 s, .slice (some ⟨fb, fo, none⟩) n3 p3, .slice a4 n4 p4, .slice (some ⟨b5, o5, none⟩) N p5, .slice a6 n6 p6] 27)).alloc (.cells #[.int .i64 0, .int .i64 0, .int .i64 0, .slice none 0 0, .slice none 0 0, .slice none 0 0, .slice none 0 0] 27)).cell? ⟨b, o + (n - 1), none⟩ = some (.int .i64 x) := by
          rw [Below.cell (B := w.heap.size) (((Below.refl _ _).alloc (Nat.le_refl _) _).alloc (by simp) _) hb]; exact hcl' _ _ hx
        have HP' : Hid (x = tJ ee (k + 1)) := Lib.hid (by
          rw [tJ_succ ee k HKL.out, HTK.out, ← hn]
          unfold prevE
          rw [if_neg hn0, List.getD, hx]; rfl)
        have hn1 : 0 < n := by omega
        clear hc hcl hcl' hes hn hx HTK HKL HE HX HVC HVL HTL HTH HEI HP
        go_wp2_with fail
        go_roundg (gk - 1)
        case measure => omega
        case rel => exact ⟨k + 1, x, by omega, rfl, by go_num, rfl, HP'⟩
    · obtain rfl : k = i := by omega
      obtain ⟨es', a, n, c, hes, hn, hc, hnc, hn9, hc9, hcl⟩ := HE.out k (by omega)
      obtain rfl : es' = es := by have := HEI.out; rw [hes] at this; exact Option.some.inj this
      obtain rfl : p = ((lo : Nat) : Int) := HP.out.trans HTL.out
      have hc' : (((w.alloc (.cells #[.int .i64 6, .int .i64 l, .int .i64 s, .slice (some ⟨fb, fo, none⟩) n3 p3, .slice a4 n4 p4, .slice (some ⟨b5, o5, none⟩) N p5, .slice a6 n6 p6] 27)).alloc (.cells #[.int .i64 0, .int .i64 0, .int .i64 0, .slice none 0 0, .slice none 0 0, .slice none 0 0, .slice none 0 0] 27)).alloc (.cells #[.int .i64 3, .int .i64 l, .int .i64 0, .slice none 0 0, .slice none 0 0, .slice none 0 0, .slice none 0 0] 27)).cell? ⟨b5, o5 + k, none⟩ = some (.slice a n c) := by
        rw [Below.cell (B := w.heap.size) ((((Below.refl _ _).alloc (Nat.le_refl _) _).alloc (by simp) _).alloc (by simp; omega) _) hb5]; exact hc
      have HEN := Lib.hid hn
      clear hc hn
      go_wp2_with fail
      go_loopg [9, 54] n (fun g v9 v54 wr => ∃ (j : Nat) (p : Int) (a9 : Option Addr) (c9 : Nat), j + g = n ∧ v9 = .int .i64 p ∧ v54 = .int .i64 j ∧ Hid (Made6 w wr (.cells #[.int .i64 6, .int .i64 l, .int .i64 s, .slice (some ⟨fb, fo, none⟩) n3 p3, .slice a4 n4 p4, .slice (some ⟨b5, o5, none⟩) N p5, .slice a6 n6 p6] 27) (.cells #[.int .i64 0, .int .i64 0, .int .i64 0, .slice none 0 0, .slice none 0 0, .slice none 0 0, .slice none 0 0] 27) l lo es' j a9 c9) ∧ Hid (p = prevE lo es' j))
      case atStart => exact ⟨0, lo, none, 0, by omega, rfl, rfl, Lib.hid ⟨heap3C .., (by rw [List.take_zero]; exact row_none _ _ _), (Below.refl _ _).alloc (by simp) _, by simp⟩, Lib.hid (by simp [prevE])⟩
      case round =>
        obtain ⟨j, p, a9, c9, hj, rfl, rfl, HM, HP⟩ := hrel
        by_cases hjn : j < n
        · obtain ⟨b, o, rfl, hb, hcl'⟩ := hcl (by omega)
          obtain ⟨x, hx⟩ : ∃ x, es'[j]? = some x := ⟨_, List.getElem?_eq_getElem (by have := HEN.out; omega)⟩
          have hcx : wr.cell? ⟨b, o + j, none⟩ = some (.int .i64 x) := by
            rw [HM.out.2.2.1.cell (show b < _ by omega), Below.cell (B := w.heap.size) (((Below.refl _ _).alloc (Nat.le_refl _) _).alloc (by simp) _) hb]; exact hcl' _ _ hx
          have hxr := HX.out x (List.mem_of_getElem? hx)
          have c4 : wr.cell? ⟨w.heap.size + 1 + 1, 4, none⟩ = some (.slice a9 j c9) := by rw [Lib.cell_of_heap HM.out.1]; rfl
          have HXJ := Lib.hid hx
          have HP' : Hid (x = prevE lo es' (j + 1)) := Lib.hid (by unfold prevE; rw [if_neg (by omega), Nat.add_sub_cancel, List.getD, hx]; rfl)
          have hsz := HM.out.2.2.2
          have hPlt : w.heap.size + 1 + 1 < wr.heap.size := by omega
          clear hcl hcl' hx hc' hes HE HX HVC HVL HTL HTH HEI HP
          go_wp2_with (at_builtin; refine append_one _ rfl _ _ 23 rfl (w.heap.size + 1 + 1 + 1) 3 i0 (.int .i64 0) 8 Tryz.underlying23 hi0 HZ.out hz1 hz2 rfl (.slice a9 j c9) j ((es'.take j).map fun x => iv (x - lo)) rfl (HM.out.2.1.alloc _) ⟨wr.heap.size, 0, none⟩ 1 (.int .i64 (x - lo)) rfl (by go_cell) rfl (by omega) (by omega) (by simp; omega) ?_; intro v'' w3 hown hgrow hfresh; obtain ⟨a', c', rfl, q1, q2, hmade⟩ := made6_step HM.out HXJ.out hown hgrow; have HM' := Lib.hid hmade; clear hown hgrow hfresh hmade HM)
          go_roundg (gk - 1)
          case measure => omega
          case rel => exact ⟨j + 1, x, a', c', by omega, rfl, by go_num, HM', HP'⟩
        · obtain rfl : j = n := by omega
          obtain ⟨i1, hi1, hy0, hy1, hy2⟩ := info_parts info32
          obtain ⟨k1, k2, k3, k4⟩ := HM.out
          have HY := Lib.hid hy0
          have hbx : ∀ b, b < w.heap.size + 1 + 1 → wr.heap[b]? = ((w.alloc (.cells #[.int .i64 6, .int .i64 l, .int .i64 s, .slice (some ⟨fb, fo, none⟩) n3 p3, .slice a4 n4 p4, .slice (some ⟨b5, o5, none⟩) N p5, .slice a6 n6 p6] 27)).alloc (.cells #[.int .i64 0, .int .i64 0, .int .i64 0, .slice none 0 0, .slice none 0 0, .slice none 0 0, .slice none 0 0] 27)).heap[b]? := k3.block
          have hR : wr.heap[w.heap.size + 1]? = some (.cells #[.int .i64 0, .int .i64 0, .int .i64 0, .slice none 0 0, .slice none 0 0, .slice none 0 0, .slice none 0 0] 27) := by rw [hbx _ (by omega)]; exact heap_alloc2_new _ _ _
          have hBX : wr.heap[w.heap.size]? = some (.cells #[.int .i64 6, .int .i64 l, .int .i64 s, .slice (some ⟨fb, fo, none⟩) n3 p3, .slice a4 n4 p4, .slice (some ⟨b5, o5, none⟩) N p5, .slice a6 n6 p6] 27) := by
            rw [hbx _ (by omega), Below.heap_alloc _ _ _ (by simp)]; exact heap_alloc_new _ _
          have c3 : wr.cell? ⟨w.heap.size, 3, none⟩ = some (.slice (some ⟨fb, fo, none⟩) n3 p3) := by rw [Lib.cell_of_heap hBX]; rfl
          have hPp : p = ((lo + m : Nat) : Int) := by
            have hkl : k < ee.length := (List.getElem?_eq_some_iff.1 hes).1
            have hek : ee[k] = es' := by rw [List.getElem?_eq_getElem hkl] at hes; exact Option.some.inj hes
            have hth := HTH.out
            rw [tJ_succ ee k hkl, HTL.out, hek, ← HEN.out] at hth
            exact HP.out.trans hth
          subst hPp
          have hBw : Below w.heap.size w wr := (((Below.refl _ _).alloc (Nat.le_refl _) _).alloc (by simp) _).trans (k3.mono (by omega))
          have HBW := Lib.hid hBw
          have HMM := HM
          have hBw2 : w.heap.size ≤ wr.heap.size := by omega
          have hlt : w.heap.size < wr.heap.size := by omega
          clear hcl hc' hes HE HX HTL HTH HEI HP hbx hBX hR hBw k1 k2 k3 HM hy0
          go_upto_region 20 with (at_builtin; refine wpList_append_own _ rfl (.tmp 68) (.tmp 73) 22 rfl wr.heap.size 32 i1 (.float .f64 0) 1 8 Tryz.underlying22 hi1 HY.out hy1 hy2 rfl (by decide) (.slice (some ⟨wr.heap.size, 0, none⟩) 0 0) 0 [] rfl (own_empty wr 32) ⟨fb, fo + lo, none⟩ m (p3 - lo) vals (by simp [Act.eval]) (by rw [HVL.out, Nat.mul_one]) (HVC.out _ (HBW.out.alloc hBw2 _)) HV1.out (by unfold maxLen; omega) (by omega) (by simp) ?_; intro vF w1 hown hgrow hnil; obtain ⟨q1, q2, hdn⟩ := made6_done HMM.out HEN.out hown hgrow; obtain ⟨aF, cF, rfl⟩ : ∃ a c, vF = .slice a m c := (own_slice hown); have HDN := Lib.hid hdn; clear hown hgrow hdn hnil)
          generalize w1.setCell ⟨w.heap.size + 1 + 1, 3, none⟩ (.slice aF m cF) = W5 at *
          have hm9 : m ≤ 1000000000 := by omega
          obtain ⟨d1, d2, _⟩ := HDN.out
          have e0 : W5.cell? ⟨w.heap.size + 1 + 1, 0, none⟩ = some (.int .i64 3) := by rw [Lib.cell_of_heap d1]; rfl
          have e1 : W5.cell? ⟨w.heap.size + 1 + 1, 1, none⟩ = some (.int .i64 l) := by rw [Lib.cell_of_heap d1]; rfl
          have e2 : W5.cell? ⟨w.heap.size + 1 + 1, 2, none⟩ = some (.int .i64 0) := by rw [Lib.cell_of_heap d1]; rfl
          have e3 : W5.cell? ⟨w.heap.size + 1 + 1, 3, none⟩ = some (.slice aF m cF) := by rw [Lib.cell_of_heap d1]; rfl
          have e4 : W5.cell? ⟨w.heap.size + 1 + 1, 4, none⟩ = some (.slice a9 j c9) := by rw [Lib.cell_of_heap d1]; rfl
          have e5 : W5.cell? ⟨w.heap.size + 1 + 1, 5, none⟩ = some (.slice none 0 0) := by rw [Lib.cell_of_heap d1]; rfl
          have e6 : W5.cell? ⟨w.heap.size + 1 + 1, 6, none⟩ = some (.slice none 0 0) := by rw [Lib.cell_of_heap d1]; rfl
          have HD2 := Lib.hid d2
          clear d1 d2 q1 q2 HBW HMM c3 HY
          go_wp2_with (refine wpList_store_row rfl 27 (.tmp 4) (.tmp 76) rfl (w.heap.size + 1) #[.int .i64 3, .int .i64 l, .int .i64 0, .slice aF m cF, .slice a9 j c9, .slice none 0 0, .slice none 0 0] ?_ ?_ 27 _ HD2.out ?_ ?_ ?_ ?_)
          rfl
          rfl
          kernel_rfl
          rfl
          simp [Value.oneCell']
          go_wp2_with fail
          refine bodyPost_ret (res4 _ _ (w.heap.size + 1) #[.int .i64 3, .int .i64 l, .int .i64 0, .slice aF m cF, .slice a9 j c9, .slice none 0 0, .slice none 0 0] rfl (setRow_heap _ _ _ _ _ _ HD2.out) rfl) rfl ?_
          obtain ⟨z1, z2, z3⟩ := done6_out HDN.out hm9 hn9 #[.int .i64 3, .int .i64 l, .int .i64 0, .slice aF m cF, .slice a9 j c9, .slice none 0 0, .slice none 0 0]
          exact ⟨_, _, rfl, z1, z2, z3⟩
set_option maxRecDepth 100000 in
set_option maxHeartbeats 4000000 in
theorem p6_lit (w : World) (b5 o5 N p5 n4 p4 n6 p6 : Nat) (l s : Int) (a4 a6 : Option Addr) (fb fo n3 p3 lo : Nat) (ee : List (List Int)) (i : Nat) (hi : i < N) (_hN9 : N ≤ 1000000000) (hN5 : N ≤ p5) (hp5 : p5 ≤ 9223372036854775807) (hb5 : b5 < w.heap.size) (hE : ∀ j, j < N → AreaAt w b5 o5 ee j) (_hn3 : n3 ≤ p3) (hn39 : n3 ≤ 1000000000) (hp3 : p3 ≤ 9223372036854775807) (hlo : lo ≤ n3) (hlp : lo < p3) (es : List Int) (he : ee[i]? = some es) (htl : tJ ee i = ((lo : Nat) : Int)) (hth : tJ ee (i + 1) = ((lo : Nat) : Int)) (hx : ∀ x ∈ es, ((lo : Nat) : Int) ≤ x ∧ x ≤ 1000000000) :
    Calls Tryz.prog 51 #[.agg #[.int .i64 6, .int .i64 l, .int .i64 s, .slice (some ⟨fb, fo, none⟩) n3 p3, .slice a4 n4 p4, .slice (some ⟨b5, o5, none⟩) N p5, .slice a6 n6 p6], .int .i64 (i : Nat)] w fun e' w' => P6Out l [] (es.map fun x => iv (x - lo)) w e' w' := by
  obtain ⟨i0, hi0, hz0, hz1, hz2⟩ := info_parts info3
  have HE := Lib.hid hE
  have HEI := Lib.hid he
  have HTL := Lib.hid htl
  have HTH := Lib.hid hth
  have HX := Lib.hid hx
  have HZ := Lib.hid hz0
  clear hE he htl hth hx hz0
  go_enter Tryz.func51, Tryz.ntmps51
  go_wp2_with fail
  go_loopg [5, 30] i (fun g v5 v30 wr => ∃ (k : Nat) (p : Int), k + g = i ∧ v5 = .int .i64 p ∧ v30 = .int .i64 k ∧ wr = (w.alloc (.cells #[.int .i64 6, .int .i64 l, .int .i64 s, .slice (some ⟨fb, fo, none⟩) n3 p3, .slice a4 n4 p4, .slice (some ⟨b5, o5, none⟩) N p5, .slice a6 n6 p6] 27)).alloc (.cells #[.int .i64 0, .int .i64 0, .int .i64 0, .slice none 0 0, .slice none 0 0, .slice none 0 0, .slice none 0 0] 27) ∧ Hid (p = tJ ee k))
  case atStart => exact ⟨0, 0, by omega, rfl, rfl, rfl, Lib.hid (by simp [tJ])⟩
  case round =>
    obtain ⟨k, p, hk, rfl, rfl, rfl, HP⟩ := hrel
    by_cases hki : k < i
    · obtain ⟨es', a, n, c, hes, hn, hc, hnc, hn9, hc9, hcl⟩ := HE.out k (by omega)
      have hc' : ((w.alloc (.cells #[.int .i64 6, .int .i64 l, .int .i64 s, .slice (some ⟨fb, fo, none⟩) n3 p3, .slice a4 n4 p4, .slice (some ⟨b5, o5, none⟩) N p5, .slice a6 n6 p6] 27)).alloc (.cells #[.int .i64 0, .int .i64 0, .int .i64 0, .slice none 0 0, .slice none 0 0, .slice none 0 0, .slice none 0 0] 27)).cell? ⟨b5, o5 + k, none⟩ = some (.slice a n c) := by
        rw [Below.cell (B := w.heap.size) (((Below.refl _ _).alloc (Nat.le_refl _) _).alloc (by simp) _) hb5]; exact hc
      have hkN : k < N := by omega
      have HTK : Hid (∀ h : k < ee.length, ee[k] = es') := Lib.hid (fun h => by rw [List.getElem?_eq_getElem h] at hes; exact Option.some.inj hes)
      have HKL : Hid (k < ee.length) := Lib.hid (List.getElem?_eq_some_iff.1 hes).1
      by_cases hn0 : n = 0
      · subst hn0
        have HP' : Hid (p = tJ ee (k + 1)) := Lib.hid (by rw [tJ_succ ee k HKL.out, HTK.out, ← hn, HP.out]; rfl)
        clear hc hcl hes hn HTK HKL HE HX HTL HTH HEI
        go_wp2_with fail
        go_roundg (gk - 1)
        case measure => omega
        case rel => exact ⟨k + 1, p, by omega, rfl, by go_num, rfl, HP'⟩
      · obtain ⟨b, o, rfl, hb, hcl'⟩ := hcl hn0
        obtain ⟨x, hx⟩ : ∃ x, es'[n - 1]? = some x := ⟨_, List.getElem?_eq_getElem (by omega)⟩
        have hcx : ((w.alloc (.cells #[.int .i64 6, .int .i64 l, .int .i64 s, .slice (some ⟨fb, fo, none⟩) n3 p3, .slice a4 n4 p4, .slice (some ⟨b5, o5, none⟩) N p5, .slice a6 n6 p6] 27)).alloc (.cells #[.int .i64 0, .int .i64 0, .int .i64 0, .slice none 0 0, .slice none 0 0, .slice none 0 0, .slice none 0 0] 27)).cell? ⟨b, o + (n - 1), none⟩ = some (.int .i64 x) := by
          rw [Below.cell (B := w.heap.size) (((Below.refl _ _).alloc (Nat.le_refl _) _).alloc (by simp) _) hb]; exact hcl' _ _ hx
        have HP' : Hid (x = tJ ee (k + 1)) := Lib.hid (by
          rw [tJ_succ ee k HKL.out, HTK.out, ← hn]
          unfold prevE
          rw [if_neg hn0, List.getD, hx]; rfl)
        have hn1 : 0 < n := by omega
        clear hc hcl hcl' hes hn hx HTK HKL HE HX HTL HTH HEI HP
        go_wp2_with fail
        go_roundg (gk - 1)
        case measure => omega
        case rel => exact ⟨k + 1, x, by omega, rfl, by go_num, rfl, HP'⟩
    · obtain rfl : k = i := by omega
      obtain ⟨es', a, n, c, hes, hn, hc, hnc, hn9, hc9, hcl⟩ := HE.out k (by omega)
      obtain rfl : es' = es := by have := HEI.out; rw [hes] at this; exact Option.some.inj this
      obtain rfl : p = ((lo : Nat) : Int) := HP.out.trans HTL.out
      have hc' : (((w.alloc (.cells #[.int .i64 6, .int .i64 l, .int .i64 s, .slice (some ⟨fb, fo, none⟩) n3 p3, .slice a4 n4 p4, .slice (some ⟨b5, o5, none⟩) N p5, .slice a6 n6 p6] 27)).alloc (.cells #[.int .i64 0, .int .i64 0, .int .i64 0, .slice none 0 0, .slice none 0 0, .slice none 0 0, .slice none 0 0] 27)).alloc (.cells #[.int .i64 3, .int .i64 l, .int .i64 0, .slice none 0 0, .slice none 0 0, .slice none 0 0, .slice none 0 0] 27)).cell? ⟨b5, o5 + k, none⟩ = some (.slice a n c) := by
        rw [Below.cell (B := w.heap.size) ((((Below.refl _ _).alloc (Nat.le_refl _) _).alloc (by simp) _).alloc (by simp; omega) _) hb5]; exact hc
      have HEN := Lib.hid hn
      clear hc hn
      go_wp2_with fail
      go_loopg [9, 54] n (fun g v9 v54 wr => ∃ (j : Nat) (p : Int) (a9 : Option Addr) (c9 : Nat), j + g = n ∧ v9 = .int .i64 p ∧ v54 = .int .i64 j ∧ Hid (Made6 w wr (.cells #[.int .i64 6, .int .i64 l, .int .i64 s, .slice (some ⟨fb, fo, none⟩) n3 p3, .slice a4 n4 p4, .slice (some ⟨b5, o5, none⟩) N p5, .slice a6 n6 p6] 27) (.cells #[.int .i64 0, .int .i64 0, .int .i64 0, .slice none 0 0, .slice none 0 0, .slice none 0 0, .slice none 0 0] 27) l lo es' j a9 c9) ∧ Hid (p = prevE lo es' j))
      case atStart => exact ⟨0, lo, none, 0, by omega, rfl, rfl, Lib.hid ⟨heap3C .., (by rw [List.take_zero]; exact row_none _ _ _), (Below.refl _ _).alloc (by simp) _, by simp⟩, Lib.hid (by simp [prevE])⟩
      case round =>
        obtain ⟨j, p, a9, c9, hj, rfl, rfl, HM, HP⟩ := hrel
        by_cases hjn : j < n
        · obtain ⟨b, o, rfl, hb, hcl'⟩ := hcl (by omega)
          obtain ⟨x, hx⟩ : ∃ x, es'[j]? = some x := ⟨_, List.getElem?_eq_getElem (by have := HEN.out; omega)⟩
          have hcx : wr.cell? ⟨b, o + j, none⟩ = some (.int .i64 x) := by
            rw [HM.out.2.2.1.cell (show b < _ by omega), Below.cell (B := w.heap.size) (((Below.refl _ _).alloc (Nat.le_refl _) _).alloc (by simp) _) hb]; exact hcl' _ _ hx
          have hxr := HX.out x (List.mem_of_getElem? hx)
          have c4 : wr.cell? ⟨w.heap.size + 1 + 1, 4, none⟩ = some (.slice a9 j c9) := by rw [Lib.cell_of_heap HM.out.1]; rfl
          have HXJ := Lib.hid hx
          have HP' : Hid (x = prevE lo es' (j + 1)) := Lib.hid (by unfold prevE; rw [if_neg (by omega), Nat.add_sub_cancel, List.getD, hx]; rfl)
          have hsz := HM.out.2.2.2
          have hPlt : w.heap.size + 1 + 1 < wr.heap.size := by omega
          clear hcl hcl' hx hc' hes HE HX HTL HTH HEI HP
          go_wp2_with (at_builtin; refine append_one _ rfl _ _ 23 rfl (w.heap.size + 1 + 1 + 1) 3 i0 (.int .i64 0) 8 Tryz.underlying23 hi0 HZ.out hz1 hz2 rfl (.slice a9 j c9) j ((es'.take j).map fun x => iv (x - lo)) rfl (HM.out.2.1.alloc _) ⟨wr.heap.size, 0, none⟩ 1 (.int .i64 (x - lo)) rfl (by go_cell) rfl (by omega) (by omega) (by simp; omega) ?_; intro v'' w3 hown hgrow hfresh; obtain ⟨a', c', rfl, q1, q2, hmade⟩ := made6_step HM.out HXJ.out hown hgrow; have HM' := Lib.hid hmade; clear hown hgrow hfresh hmade HM)
          go_roundg (gk - 1)
          case measure => omega
          case rel => exact ⟨j + 1, x, a', c', by omega, rfl, by go_num, HM', HP'⟩
        · obtain rfl : j = n := by omega
          obtain ⟨i1, hi1, hy0, hy1, hy2⟩ := info_parts info32
          obtain ⟨k1, k2, k3, k4⟩ := HM.out
          have HY := Lib.hid hy0
          have hbx : ∀ b, b < w.heap.size + 1 + 1 → wr.heap[b]? = ((w.alloc (.cells #[.int .i64 6, .int .i64 l, .int .i64 s, .slice (some ⟨fb, fo, none⟩) n3 p3, .slice a4 n4 p4, .slice (some ⟨b5, o5, none⟩) N p5, .slice a6 n6 p6] 27)).alloc (.cells #[.int .i64 0, .int .i64 0, .int .i64 0, .slice none 0 0, .slice none 0 0, .slice none 0 0, .slice none 0 0] 27)).heap[b]? := k3.block
          have hR : wr.heap[w.heap.size + 1]? = some (.cells #[.int .i64 0, .int .i64 0, .int .i64 0, .slice none 0 0, .slice none 0 0, .slice none 0 0, .slice none 0 0] 27) := by rw [hbx _ (by omega)]; exact heap_alloc2_new _ _ _
          have hBX : wr.heap[w.heap.size]? = some (.cells #[.int .i64 6, .int .i64 l, .int .i64 s, .slice (some ⟨fb, fo, none⟩) n3 p3, .slice a4 n4 p4, .slice (some ⟨b5, o5, none⟩) N p5, .slice a6 n6 p6] 27) := by
            rw [hbx _ (by omega), Below.heap_alloc _ _ _ (by simp)]; exact heap_alloc_new _ _
          have c3 : wr.cell? ⟨w.heap.size, 3, none⟩ = some (.slice (some ⟨fb, fo, none⟩) n3 p3) := by rw [Lib.cell_of_heap hBX]; rfl
          have hPp : p = ((lo : Nat) : Int) := by
            have hkl : k < ee.length := (List.getElem?_eq_some_iff.1 hes).1
            have hek : ee[k] = es' := by rw [List.getElem?_eq_getElem hkl] at hes; exact Option.some.inj hes
            have hth := HTH.out
            rw [tJ_succ ee k hkl, HTL.out, hek, ← HEN.out] at hth
            exact HP.out.trans hth
          subst hPp
          have hBw : Below w.heap.size w wr := (((Below.refl _ _).alloc (Nat.le_refl _) _).alloc (by simp) _).trans (k3.mono (by omega))
          have HBW := Lib.hid hBw
          have HMM := HM
          have hBw2 : w.heap.size ≤ wr.heap.size := by omega
          have hlt : w.heap.size < wr.heap.size := by omega
          clear hcl hc' hes HE HX HTL HTH HEI HP hbx hBX hR hBw k1 k2 k3 HM hy0
          obtain ⟨q1, q2, hdn⟩ := made6_done (m := 0) (F := []) HMM.out HEN.out (own_empty wr 32) (grown_refl _ _)
          have HDN := Lib.hid hdn
          clear hdn
          go_upto_region 20 with (fail)
          all_goals
            generalize (wr.alloc (.cells #[] 32)).setCell ⟨w.heap.size + 1 + 1, 3, none⟩ (.slice (some ⟨wr.heap.size, 0, none⟩) 0 0) = W5 at *
            obtain ⟨d1, d2, _⟩ := HDN.out
            have e0 : W5.cell? ⟨w.heap.size + 1 + 1, 0, none⟩ = some (.int .i64 3) := by rw [Lib.cell_of_heap d1]; rfl
            have e1 : W5.cell? ⟨w.heap.size + 1 + 1, 1, none⟩ = some (.int .i64 l) := by rw [Lib.cell_of_heap d1]; rfl
            have e2 : W5.cell? ⟨w.heap.size + 1 + 1, 2, none⟩ = some (.int .i64 0) := by rw [Lib.cell_of_heap d1]; rfl
            have e3 : W5.cell? ⟨w.heap.size + 1 + 1, 3, none⟩ = some (.slice (some ⟨wr.heap.size, 0, none⟩) 0 0) := by rw [Lib.cell_of_heap d1]; rfl
            have e4 : W5.cell? ⟨w.heap.size + 1 + 1, 4, none⟩ = some (.slice a9 j c9) := by rw [Lib.cell_of_heap d1]; rfl
            have e5 : W5.cell? ⟨w.heap.size + 1 + 1, 5, none⟩ = some (.slice none 0 0) := by rw [Lib.cell_of_heap d1]; rfl
            have e6 : W5.cell? ⟨w.heap.size + 1 + 1, 6, none⟩ = some (.slice none 0 0) := by rw [Lib.cell_of_heap d1]; rfl
            have HD2 := Lib.hid d2
            clear d1 d2 q1 q2 HBW HMM c3 HY
            go_wp2_with (refine wpList_store_row rfl 27 (.tmp 4) (.tmp 76) rfl (w.heap.size + 1) #[.int .i64 3, .int .i64 l, .int .i64 0, .slice (some ⟨wr.heap.size, 0, none⟩) 0 0, .slice a9 j c9, .slice none 0 0, .slice none 0 0] ?_ ?_ 27 _ HD2.out ?_ ?_ ?_ ?_)
            rfl
            rfl
            kernel_rfl
            rfl
            simp [Value.oneCell']
            go_wp2_with fail
            refine bodyPost_ret (res4 _ _ (w.heap.size + 1) #[.int .i64 3, .int .i64 l, .int .i64 0, .slice (some ⟨wr.heap.size, 0, none⟩) 0 0, .slice a9 j c9, .slice none 0 0, .slice none 0 0] rfl (setRow_heap _ _ _ _ _ _ HD2.out) rfl) rfl ?_
            obtain ⟨z1, z2, z3⟩ := done6_out HDN.out (Nat.zero_le _) hn9 #[.int .i64 3, .int .i64 l, .int .i64 0, .slice (some ⟨wr.heap.size, 0, none⟩) 0 0, .slice a9 j c9, .slice none 0 0, .slice none 0 0]
            exact ⟨_, _, rfl, z1, z2, z3⟩
set_option maxRecDepth 100000 in
set_option maxHeartbeats 4000000 in
theorem p6_litE (w : World) (b5 o5 N p5 n4 p4 n6 p6 : Nat) (l s : Int) (a4 a6 : Option Addr) (fb fo lo : Nat) (ee : List (List Int)) (i : Nat) (hi : i < N) (_hN9 : N ≤ 1000000000) (hN5 : N ≤ p5) (hp5 : p5 ≤ 9223372036854775807) (hb5 : b5 < w.heap.size) (hE : ∀ j, j < N → AreaAt w b5 o5 ee j) (hlo9 : lo ≤ 1000000000) (es : List Int) (he : ee[i]? = some es) (htl : tJ ee i = ((lo : Nat) : Int)) (hth : tJ ee (i + 1) = ((lo : Nat) : Int)) (hx : ∀ x ∈ es, ((lo : Nat) : Int) ≤ x ∧ x ≤ 1000000000) :
    Calls Tryz.prog 51 #[.agg #[.int .i64 6, .int .i64 l, .int .i64 s, .slice (some ⟨fb, fo, none⟩) lo lo, .slice a4 n4 p4, .slice (some ⟨b5, o5, none⟩) N p5, .slice a6 n6 p6], .int .i64 (i : Nat)] w fun e' w' => P6Out l [] (es.map fun x => iv (x - lo)) w e' w' := by
  obtain ⟨i0, hi0, hz0, hz1, hz2⟩ := info_parts info3
  have HE := Lib.hid hE
  have HEI := Lib.hid he
  have HTL := Lib.hid htl
  have HTH := Lib.hid hth
  have HX := Lib.hid hx
  have HZ := Lib.hid hz0
  clear hE he htl hth hx hz0
  go_enter Tryz.func51, Tryz.ntmps51
  go_wp2_with fail
  go_loopg [5, 30] i (fun g v5 v30 wr => ∃ (k : Nat) (p : Int), k + g = i ∧ v5 = .int .i64 p ∧ v30 = .int .i64 k ∧ wr = (w.alloc (.cells #[.int .i64 6, .int .i64 l, .int .i64 s, .slice (some ⟨fb, fo, none⟩) lo lo, .slice a4 n4 p4, .slice (some ⟨b5, o5, none⟩) N p5, .slice a6 n6 p6] 27)).alloc (.cells #[.int .i64 0, .int .i64 0, .int .i64 0, .slice none 0 0, .slice none 0 0, .slice none 0 0, .slice none 0 0] 27) ∧ Hid (p = tJ ee k))
  case atStart => exact ⟨0, 0, by omega, rfl, rfl, rfl, Lib.hid (by simp [tJ])⟩
  case round =>
    obtain ⟨k, p, hk, rfl, rfl, rfl, HP⟩ := hrel
    by_cases hki : k < i
    · obtain ⟨es', a, n, c, hes, hn, hc, hnc, hn9, hc9, hcl⟩ := HE.out k (by omega)
      have hc' : ((w.alloc (.cells #[.int .i64 6, .int .i64 l, .int .i64 s, .slice (some ⟨fb, fo, none⟩) lo lo, .slice a4 n4 p4, .slice (some ⟨b5, o5, none⟩) N p5, .slice a6 n6 p6] 27)).alloc (.cells #[.int .i64 0, .int .i64 0, .int .i64 0, .slice none 0 0, .slice none 0 0, .slice none 0 0, .slice none 0 0] 27)).cell? ⟨b5, o5 + k, none⟩ = some (.slice a n c) := by
        rw [Below.cell (B := w.heap.size) (((Below.refl _ _).alloc (Nat.le_refl _) _).alloc (by simp) _) hb5]; exact hc
      have hkN : k < N := by omega
      have HTK : Hid (∀ h : k < ee.length, ee[k] = es') := Lib.hid (fun h => by rw [List.getElem?_eq_getElem h] at hes; exact Option.some.inj hes)
      have HKL : Hid (k < ee.length) := Lib.hid (List.getElem?_eq_some_iff.1 hes).1
      by_cases hn0 : n = 0
      · subst hn0
        have HP' : Hid (p = tJ ee (k + 1)) := Lib.hid (by rw [tJ_succ ee k HKL.out, HTK.out, ← hn, HP.out]; rfl)
        clear hc hcl hes hn HTK HKL HE HX HTL HTH HEI
        go_wp2_with fail
        go_roundg (gk - 1)
        case measure => omega
        case rel => exact ⟨k + 1, p, by omega, rfl, by go_num, rfl, HP'⟩
      · obtain ⟨b, o, rfl, hb, hcl'⟩ := hcl hn0
        obtain ⟨x, hx⟩ : ∃ x, es'[n - 1]? = some x := ⟨_, List.getElem?_eq_getElem (by omega)⟩
        have hcx : ((w.alloc (.cells #[.int .i64 6, .int .i64 l, .int .i64 s, .slice (some ⟨fb, fo, none⟩) lo lo, .slice a4 n4 p4, .slice (some ⟨b5, o5, none⟩) N p5, .slice a6 n6 p6] 27)).alloc (.cells #[.int .i64 0, .int .i64 0, .int .i64 0, .slice none 0 0, .slice none 0 0, .slice none 0 0, .slice none 0 0] 27)).cell? ⟨b, o + (n - 1), none⟩ = some (.int .i64 x) := by
          rw [Below.cell (B := w.heap.size) (((Below.refl _ _).alloc (Nat.le_refl _) _).alloc (by simp) _) hb]; exact hcl' _ _ hx
        have HP' : Hid (x = tJ ee (k + 1)) := Lib.hid (by
          rw [tJ_succ ee k HKL.out, HTK.out, ← hn]
          unfold prevE
          rw [if_neg hn0, List.getD, hx]; rfl)
        have hn1 : 0 < n := by omega
        clear hc hcl hcl' hes hn hx HTK HKL HE HX HTL HTH HEI HP
        go_wp2_with fail
        go_roundg (gk - 1)
        case measure => omega
        case rel => exact ⟨k + 1, x, by omega, rfl, by go_num, rfl, HP'⟩
    · obtain rfl : k = i := by omega
      obtain ⟨es', a, n, c, hes, hn, hc, hnc, hn9, hc9, hcl⟩ := HE.out k (by omega)
      obtain rfl : es' = es := by have := HEI.out; rw [hes] at this; exact Option.some.inj this
      obtain rfl : p = ((lo : Nat) : Int) := HP.out.trans HTL.out
      have hc' : (((w.alloc (.cells #[.int .i64 6, .int .i64 l, .int .i64 s, .slice (some ⟨fb, fo, none⟩) lo lo, .slice a4 n4 p4, .slice (some ⟨b5, o5, none⟩) N p5, .slice a6 n6 p6] 27)).alloc (.cells #[.int .i64 0, .int .i64 0, .int .i64 0, .slice none 0 0, .slice none 0 0, .slice none 0 0, .slice none 0 0] 27)).alloc (.cells #[.int .i64 3, .int .i64 l, .int .i64 0, .slice none 0 0, .slice none 0 0, .slice none 0 0, .slice none 0 0] 27)).cell? ⟨b5, o5 + k, none⟩ = some (.slice a n c) := by
        rw [Below.cell (B := w.heap.size) ((((Below.refl _ _).alloc (Nat.le_refl _) _).alloc (by simp) _).alloc (by simp; omega) _) hb5]; exact hc
      have HEN := Lib.hid hn
      clear hc hn
      go_wp2_with fail
      go_loopg [9, 54] n (fun g v9 v54 wr => ∃ (j : Nat) (p : Int) (a9 : Option Addr) (c9 : Nat), j + g = n ∧ v9 = .int .i64 p ∧ v54 = .int .i64 j ∧ Hid (Made6 w wr (.cells #[.int .i64 6, .int .i64 l, .int .i64 s, .slice (some ⟨fb, fo, none⟩) lo lo, .slice a4 n4 p4, .slice (some ⟨b5, o5, none⟩) N p5, .slice a6 n6 p6] 27) (.cells #[.int .i64 0, .int .i64 0, .int .i64 0, .slice none 0 0, .slice none 0 0, .slice none 0 0, .slice none 0 0] 27) l lo es' j a9 c9) ∧ Hid (p = prevE lo es' j))
      case atStart => exact ⟨0, lo, none, 0, by omega, rfl, rfl, Lib.hid ⟨heap3C .., (by rw [List.take_zero]; exact row_none _ _ _), (Below.refl _ _).alloc (by simp) _, by simp⟩, Lib.hid (by simp [prevE])⟩
      case round =>
        obtain ⟨j, p, a9, c9, hj, rfl, rfl, HM, HP⟩ := hrel
        by_cases hjn : j < n
        · obtain ⟨b, o, rfl, hb, hcl'⟩ := hcl (by omega)
          obtain ⟨x, hx⟩ : ∃ x, es'[j]? = some x := ⟨_, List.getElem?_eq_getElem (by have := HEN.out; omega)⟩
          have hcx : wr.cell? ⟨b, o + j, none⟩ = some (.int .i64 x) := by
            rw [HM.out.2.2.1.cell (show b < _ by omega), Below.cell (B := w.heap.size) (((Below.refl _ _).alloc (Nat.le_refl _) _).alloc (by simp) _) hb]; exact hcl' _ _ hx
          have hxr := HX.out x (List.mem_of_getElem? hx)
          have c4 : wr.cell? ⟨w.heap.size + 1 + 1, 4, none⟩ = some (.slice a9 j c9) := by rw [Lib.cell_of_heap HM.out.1]; rfl
          have HXJ := Lib.hid hx
          have HP' : Hid (x = prevE lo es' (j + 1)) := Lib.hid (by unfold prevE; rw [if_neg (by omega), Nat.add_sub_cancel, List.getD, hx]; rfl)
          have hsz := HM.out.2.2.2
          have hPlt : w.heap.size + 1 + 1 < wr.heap.size := by omega
          clear hcl hcl' hx hc' hes HE HX HTL HTH HEI HP
          go_wp2_with (at_builtin; refine append_one _ rfl _ _ 23 rfl (w.heap.size + 1 + 1 + 1) 3 i0 (.int .i64 0) 8 Tryz.underlying23 hi0 HZ.out hz1 hz2 rfl (.slice a9 j c9) j ((es'.take j).map fun x => iv (x - lo)) rfl (HM.out.2.1.alloc _) ⟨wr.heap.size, 0, none⟩ 1 (.int .i64 (x - lo)) rfl (by go_cell) rfl (by omega) (by omega) (by simp; omega) ?_; intro v'' w3 hown hgrow hfresh; obtain ⟨a', c', rfl, q1, q2, hmade⟩ := made6_step HM.out HXJ.out hown hgrow; have HM' := Lib.hid hmade; clear hown hgrow hfresh hmade HM)
          go_roundg (gk - 1)
          case measure => omega
          case rel => exact ⟨j + 1, x, a', c', by omega, rfl, by go_num, HM', HP'⟩
        · obtain rfl : j = n := by omega
          obtain ⟨i1, hi1, hy0, hy1, hy2⟩ := info_parts info32
          obtain ⟨k1, k2, k3, k4⟩ := HM.out
          have HY := Lib.hid hy0
          have hbx : ∀ b, b < w.heap.size + 1 + 1 → wr.heap[b]? = ((w.alloc (.cells #[.int .i64 6, .int .i64 l, .int .i64 s, .slice (some ⟨fb, fo, none⟩) lo lo, .slice a4 n4 p4, .slice (some ⟨b5, o5, none⟩) N p5, .slice a6 n6 p6] 27)).alloc (.cells #[.int .i64 0, .int .i64 0, .int .i64 0, .slice none 0 0, .slice none 0 0, .slice none 0 0, .slice none 0 0] 27)).heap[b]? := k3.block
          have hR : wr.heap[w.heap.size + 1]? = some (.cells #[.int .i64 0, .int .i64 0, .int .i64 0, .slice none 0 0, .slice none 0 0, .slice none 0 0, .slice none 0 0] 27) := by rw [hbx _ (by omega)]; exact heap_alloc2_new _ _ _
          have hBX : wr.heap[w.heap.size]? = some (.cells #[.int .i64 6, .int .i64 l, .int .i64 s, .slice (some ⟨fb, fo, none⟩) lo lo, .slice a4 n4 p4, .slice (some ⟨b5, o5, none⟩) N p5, .slice a6 n6 p6] 27) := by
            rw [hbx _ (by omega), Below.heap_alloc _ _ _ (by simp)]; exact heap_alloc_new _ _
          have c3 : wr.cell? ⟨w.heap.size, 3, none⟩ = some (.slice (some ⟨fb, fo, none⟩) lo lo) := by rw [Lib.cell_of_heap hBX]; rfl
          have hPp : p = ((lo : Nat) : Int) := by
            have hkl : k < ee.length := (List.getElem?_eq_some_iff.1 hes).1
            have hek : ee[k] = es' := by rw [List.getElem?_eq_getElem hkl] at hes; exact Option.some.inj hes
            have hth := HTH.out
            rw [tJ_succ ee k hkl, HTL.out, hek, ← HEN.out] at hth
            exact HP.out.trans hth
          subst hPp
          have hBw : Below w.heap.size w wr := (((Below.refl _ _).alloc (Nat.le_refl _) _).alloc (by simp) _).trans (k3.mono (by omega))
          have HBW := Lib.hid hBw
          have HMM := HM
          have hBw2 : w.heap.size ≤ wr.heap.size := by omega
          have hlt : w.heap.size < wr.heap.size := by omega
          clear hcl hc' hes HE HX HTL HTH HEI HP hbx hBX hR hBw k1 k2 k3 HM hy0
          obtain ⟨q1, q2, hdn⟩ := made6_done (m := 0) (F := []) HMM.out HEN.out (own_empty wr 32) (grown_refl _ _)
          have HDN := Lib.hid hdn
          clear hdn
          go_upto_region 20 with (fail)
          all_goals
            generalize (wr.alloc (.cells #[] 32)).setCell ⟨w.heap.size + 1 + 1, 3, none⟩ (.slice (some ⟨wr.heap.size, 0, none⟩) 0 0) = W5 at *
            obtain ⟨d1, d2, _⟩ := HDN.out
            have e0 : W5.cell? ⟨w.heap.size + 1 + 1, 0, none⟩ = some (.int .i64 3) := by rw [Lib.cell_of_heap d1]; rfl
            have e1 : W5.cell? ⟨w.heap.size + 1 + 1, 1, none⟩ = some (.int .i64 l) := by rw [Lib.cell_of_heap d1]; rfl
            have e2 : W5.cell? ⟨w.heap.size + 1 + 1, 2, none⟩ = some (.int .i64 0) := by rw [Lib.cell_of_heap d1]; rfl
            have e3 : W5.cell? ⟨w.heap.size + 1 + 1, 3, none⟩ = some (.slice (some ⟨wr.heap.size, 0, none⟩) 0 0) := by rw [Lib.cell_of_heap d1]; rfl
            have e4 : W5.cell? ⟨w.heap.size + 1 + 1, 4, none⟩ = some (.slice a9 j c9) := by rw [Lib.cell_of_heap d1]; rfl
            have e5 : W5.cell? ⟨w.heap.size + 1 + 1, 5, none⟩ = some (.slice none 0 0) := by rw [Lib.cell_of_heap d1]; rfl
            have e6 : W5.cell? ⟨w.heap.size + 1 + 1, 6, none⟩ = some (.slice none 0 0) := by rw [Lib.cell_of_heap d1]; rfl
            have HD2 := Lib.hid d2
            clear d1 d2 q1 q2 HBW HMM c3 HY
            go_wp2_with (refine wpList_store_row rfl 27 (.tmp 4) (.tmp 76) rfl (w.heap.size + 1) #[.int .i64 3, .int .i64 l, .int .i64 0, .slice (some ⟨wr.heap.size, 0, none⟩) 0 0, .slice a9 j c9, .slice none 0 0, .slice none 0 0] ?_ ?_ 27 _ HD2.out ?_ ?_ ?_ ?_)
            rfl
            rfl
            kernel_rfl
            rfl
            simp [Value.oneCell']
            go_wp2_with fail
            refine bodyPost_ret (res4 _ _ (w.heap.size + 1) #[.int .i64 3, .int .i64 l, .int .i64 0, .slice (some ⟨wr.heap.size, 0, none⟩) 0 0, .slice a9 j c9, .slice none 0 0, .slice none 0 0] rfl (setRow_heap _ _ _ _ _ _ HD2.out) rfl) rfl ?_
            obtain ⟨z1, z2, z3⟩ := done6_out HDN.out (Nat.zero_le _) hn9 #[.int .i64 3, .int .i64 l, .int .i64 0, .slice (some ⟨wr.heap.size, 0, none⟩) 0 0, .slice a9 j c9, .slice none 0 0, .slice none 0 0]
            exact ⟨_, _, rfl, z1, z2, z3⟩
set_option maxRecDepth 100000 in
set_option maxHeartbeats 4000000 in
theorem p6_nil (w : World) (b5 o5 N p5 n4 p4 n6 p6 : Nat) (l s : Int) (a4 a6 : Option Addr)  (ee : List (List Int)) (i : Nat) (hi : i < N) (_hN9 : N ≤ 1000000000) (hN5 : N ≤ p5) (hp5 : p5 ≤ 9223372036854775807) (hb5 : b5 < w.heap.size) (hE : ∀ j, j < N → AreaAt w b5 o5 ee j) (es : List Int) (he : ee[i]? = some es) (htl : tJ ee i = 0) (hth : tJ ee (i + 1) = 0) (hx : ∀ x ∈ es, 0 ≤ x ∧ x ≤ 1000000000) :
    Calls Tryz.prog 51 #[.agg #[.int .i64 6, .int .i64 l, .int .i64 s, .slice none 0 0, .slice a4 n4 p4, .slice (some ⟨b5, o5, none⟩) N p5, .slice a6 n6 p6], .int .i64 (i : Nat)] w fun e' w' => P6Out l [] (es.map fun x => iv (x - 0)) w e' w' := by
  obtain ⟨i0, hi0, hz0, hz1, hz2⟩ := info_parts info3
  have HE := Lib.hid hE
  have HEI := Lib.hid he
  have HTL := Lib.hid htl
  have HTH := Lib.hid hth
  have HX := Lib.hid hx
  have HZ := Lib.hid hz0
  clear hE he htl hth hx hz0
  go_enter Tryz.func51, Tryz.ntmps51
  go_wp2_with fail
  go_loopg [5, 30] i (fun g v5 v30 wr => ∃ (k : Nat) (p : Int), k + g = i ∧ v5 = .int .i64 p ∧ v30 = .int .i64 k ∧ wr = (w.alloc (.cells #[.int .i64 6, .int .i64 l, .int .i64 s, .slice none 0 0, .slice a4 n4 p4, .slice (some ⟨b5, o5, none⟩) N p5, .slice a6 n6 p6] 27)).alloc (.cells #[.int .i64 0, .int .i64 0, .int .i64 0, .slice none 0 0, .slice none 0 0, .slice none 0 0, .slice none 0 0] 27) ∧ Hid (p = tJ ee k))
  case atStart => exact ⟨0, 0, by omega, rfl, rfl, rfl, Lib.hid (by simp [tJ])⟩
  case round =>
    obtain ⟨k, p, hk, rfl, rfl, rfl, HP⟩ := hrel
    by_cases hki : k < i
    · obtain ⟨es', a, n, c, hes, hn, hc, hnc, hn9, hc9, hcl⟩ := HE.out k (by omega)
      have hc' : ((w.alloc (.cells #[.int .i64 6, .int .i64 l, .int .i64 s, .slice none 0 0, .slice a4 n4 p4, .slice (some ⟨b5, o5, none⟩) N p5, .slice a6 n6 p6] 27)).alloc (.cells #[.int .i64 0, .int .i64 0, .int .i64 0, .slice none 0 0, .slice none 0 0, .slice none 0 0, .slice none 0 0] 27)).cell? ⟨b5, o5 + k, none⟩ = some (.slice a n c) := by
        rw [Below.cell (B := w.heap.size) (((Below.refl _ _).alloc (Nat.le_refl _) _).alloc (by simp) _) hb5]; exact hc
      have hkN : k < N := by omega
      have HTK : Hid (∀ h : k < ee.length, ee[k] = es') := Lib.hid (fun h => by rw [List.getElem?_eq_getElem h] at hes; exact Option.some.inj hes)
      have HKL : Hid (k < ee.length) := Lib.hid (List.getElem?_eq_some_iff.1 hes).1
      by_cases hn0 : n = 0
      · subst hn0
        have HP' : Hid (p = tJ ee (k + 1)) := Lib.hid (by rw [tJ_succ ee k HKL.out, HTK.out, ← hn, HP.out]; rfl)
        clear hc hcl hes hn HTK HKL HE HX HTL HTH HEI
        go_wp2_with fail
        go_roundg (gk - 1)
        case measure => omega
        case rel => exact ⟨k + 1, p, by omega, rfl, by go_num, rfl, HP'⟩
      · obtain ⟨b, o, rfl, hb, hcl'⟩ := hcl hn0
        obtain ⟨x, hx⟩ : ∃ x, es'[n - 1]? = some x := ⟨_, List.getElem?_eq_getElem (by omega)⟩
        have hcx : ((w.alloc (.cells #[.int .i64 6, .int .i64 l, .int .i64 s, .slice none 0 0, .slice a4 n4 p4, .slice (some ⟨b5, o5, none⟩) N p5, .slice a6 n6 p6] 27)).alloc (.cells #[.int .i64 0, .int .i64 0, .int .i64 0, .slice none 0 0, .slice none 0 0, .slice none 0 0, .slice none 0 0] 27)).cell? ⟨b, o + (n - 1), none⟩ = some (.int .i64 x) := by
          rw [Below.cell (B := w.heap.size) (((Below.refl _ _).alloc (Nat.le_refl _) _).alloc (by simp) _) hb]; exact hcl' _ _ hx
        have HP' : Hid (x = tJ ee (k + 1)) := Lib.hid (by
          rw [tJ_succ ee k HKL.out, HTK.out, ← hn]
          unfold prevE
          rw [if_neg hn0, List.getD, hx]; rfl)
        have hn1 : 0 < n := by omega
        clear hc hcl hcl' hes hn hx HTK HKL HE HX HTL HTH HEI HP
        go_wp2_with fail
        go_roundg (gk - 1)
        case measure => omega
        case rel => exact ⟨k + 1, x, by omega, rfl, by go_num, rfl, HP'⟩
    · obtain rfl : k = i := by omega
      obtain ⟨es', a, n, c, hes, hn, hc, hnc, hn9, hc9, hcl⟩ := HE.out k (by omega)
      obtain rfl : es' = es := by have := HEI.out; rw [hes] at this; exact Option.some.inj this
      obtain rfl : p = (0 : Int) := HP.out.trans HTL.out
      have hc' : (((w.alloc (.cells #[.int .i64 6, .int .i64 l, .int .i64 s, .slice none 0 0, .slice a4 n4 p4, .slice (some ⟨b5, o5, none⟩) N p5, .slice a6 n6 p6] 27)).alloc (.cells #[.int .i64 0, .int .i64 0, .int .i64 0, .slice none 0 0, .slice none 0 0, .slice none 0 0, .slice none 0 0] 27)).alloc (.cells #[.int .i64 3, .int .i64 l, .int .i64 0, .slice none 0 0, .slice none 0 0, .slice none 0 0, .slice none 0 0] 27)).cell? ⟨b5, o5 + k, none⟩ = some (.slice a n c) := by
        rw [Below.cell (B := w.heap.size) ((((Below.refl _ _).alloc (Nat.le_refl _) _).alloc (by simp) _).alloc (by simp; omega) _) hb5]; exact hc
      have HEN := Lib.hid hn
      clear hc hn
      go_wp2_with fail
      go_loopg [9, 54] n (fun g v9 v54 wr => ∃ (j : Nat) (p : Int) (a9 : Option Addr) (c9 : Nat), j + g = n ∧ v9 = .int .i64 p ∧ v54 = .int .i64 j ∧ Hid (Made6 w wr (.cells #[.int .i64 6, .int .i64 l, .int .i64 s, .slice none 0 0, .slice a4 n4 p4, .slice (some ⟨b5, o5, none⟩) N p5, .slice a6 n6 p6] 27) (.cells #[.int .i64 0, .int .i64 0, .int .i64 0, .slice none 0 0, .slice none 0 0, .slice none 0 0, .slice none 0 0] 27) l 0 es' j a9 c9) ∧ Hid (p = prevE 0 es' j))
      case atStart => exact ⟨0, 0, none, 0, by omega, rfl, rfl, Lib.hid ⟨heap3C .., (by rw [List.take_zero]; exact row_none _ _ _), (Below.refl _ _).alloc (by simp) _, by simp⟩, Lib.hid (by simp [prevE])⟩
      case round =>
        obtain ⟨j, p, a9, c9, hj, rfl, rfl, HM, HP⟩ := hrel
        by_cases hjn : j < n
        · obtain ⟨b, o, rfl, hb, hcl'⟩ := hcl (by omega)
          obtain ⟨x, hx⟩ : ∃ x, es'[j]? = some x := ⟨_, List.getElem?_eq_getElem (by have := HEN.out; omega)⟩
          have hcx : wr.cell? ⟨b, o + j, none⟩ = some (.int .i64 x) := by
            rw [HM.out.2.2.1.cell (show b < _ by omega), Below.cell (B := w.heap.size) (((Below.refl _ _).alloc (Nat.le_refl _) _).alloc (by simp) _) hb]; exact hcl' _ _ hx
          have hxr := HX.out x (List.mem_of_getElem? hx)
          have c4 : wr.cell? ⟨w.heap.size + 1 + 1, 4, none⟩ = some (.slice a9 j c9) := by rw [Lib.cell_of_heap HM.out.1]; rfl
          have HXJ := Lib.hid hx
          have HP' : Hid (x = prevE 0 es' (j + 1)) := Lib.hid (by unfold prevE; rw [if_neg (by omega), Nat.add_sub_cancel, List.getD, hx]; rfl)
          have hsz := HM.out.2.2.2
          have hPlt : w.heap.size + 1 + 1 < wr.heap.size := by omega
          clear hcl hcl' hx hc' hes HE HX HTL HTH HEI HP
          go_wp2_with (at_builtin; refine append_one _ rfl _ _ 23 rfl (w.heap.size + 1 + 1 + 1) 3 i0 (.int .i64 0) 8 Tryz.underlying23 hi0 HZ.out hz1 hz2 rfl (.slice a9 j c9) j ((es'.take j).map fun x => iv (x - 0)) rfl (HM.out.2.1.alloc _) ⟨wr.heap.size, 0, none⟩ 1 (.int .i64 (x - 0)) rfl (by go_cell) rfl (by omega) (by omega) (by simp; omega) ?_; intro v'' w3 hown hgrow hfresh; obtain ⟨a', c', rfl, q1, q2, hmade⟩ := made6_step HM.out HXJ.out hown hgrow; have HM' := Lib.hid hmade; clear hown hgrow hfresh hmade HM)
          go_roundg (gk - 1)
          case measure => omega
          case rel => exact ⟨j + 1, x, a', c', by omega, rfl, by go_num, HM', HP'⟩
        · obtain rfl : j = n := by omega
          obtain ⟨i1, hi1, hy0, hy1, hy2⟩ := info_parts info32
          obtain ⟨k1, k2, k3, k4⟩ := HM.out
          have HY := Lib.hid hy0
          have hbx : ∀ b, b < w.heap.size + 1 + 1 → wr.heap[b]? = ((w.alloc (.cells #[.int .i64 6, .int .i64 l, .int .i64 s, .slice none 0 0, .slice a4 n4 p4, .slice (some ⟨b5, o5, none⟩) N p5, .slice a6 n6 p6] 27)).alloc (.cells #[.int .i64 0, .int .i64 0, .int .i64 0, .slice none 0 0, .slice none 0 0, .slice none 0 0, .slice none 0 0] 27)).heap[b]? := k3.block
          have hR : wr.heap[w.heap.size + 1]? = some (.cells #[.int .i64 0, .int .i64 0, .int .i64 0, .slice none 0 0, .slice none 0 0, .slice none 0 0, .slice none 0 0] 27) := by rw [hbx _ (by omega)]; exact heap_alloc2_new _ _ _
          have hBX : wr.heap[w.heap.size]? = some (.cells #[.int .i64 6, .int .i64 l, .int .i64 s, .slice none 0 0, .slice a4 n4 p4, .slice (some ⟨b5, o5, none⟩) N p5, .slice a6 n6 p6] 27) := by
            rw [hbx _ (by omega), Below.heap_alloc _ _ _ (by simp)]; exact heap_alloc_new _ _
          have c3 : wr.cell? ⟨w.heap.size, 3, none⟩ = some (.slice none 0 0) := by rw [Lib.cell_of_heap hBX]; rfl
          have hPp : p = 0 := by
            have hkl : k < ee.length := (List.getElem?_eq_some_iff.1 hes).1
            have hek : ee[k] = es' := by rw [List.getElem?_eq_getElem hkl] at hes; exact Option.some.inj hes
            have hth := HTH.out
            rw [tJ_succ ee k hkl, HTL.out, hek, ← HEN.out] at hth
            exact HP.out.trans hth
          subst hPp
          have hBw : Below w.heap.size w wr := (((Below.refl _ _).alloc (Nat.le_refl _) _).alloc (by simp) _).trans (k3.mono (by omega))
          have HBW := Lib.hid hBw
          have HMM := HM
          have hBw2 : w.heap.size ≤ wr.heap.size := by omega
          have hlt : w.heap.size < wr.heap.size := by omega
          clear hcl hc' hes HE HX HTL HTH HEI HP hbx hBX hR hBw k1 k2 k3 HM hy0
          obtain ⟨q1, q2, hdn⟩ := made6_done (m := 0) (F := []) HMM.out HEN.out (own_empty wr 32) (grown_refl _ _)
          have HDN := Lib.hid hdn
          clear hdn
          go_upto_region 20 with (fail)
          all_goals
            generalize (wr.alloc (.cells #[] 32)).setCell ⟨w.heap.size + 1 + 1, 3, none⟩ (.slice (some ⟨wr.heap.size, 0, none⟩) 0 0) = W5 at *
            obtain ⟨d1, d2, _⟩ := HDN.out
            have e0 : W5.cell? ⟨w.heap.size + 1 + 1, 0, none⟩ = some (.int .i64 3) := by rw [Lib.cell_of_heap d1]; rfl
            have e1 : W5.cell? ⟨w.heap.size + 1 + 1, 1, none⟩ = some (.int .i64 l) := by rw [Lib.cell_of_heap d1]; rfl
            have e2 : W5.cell? ⟨w.heap.size + 1 + 1, 2, none⟩ = some (.int .i64 0) := by rw [Lib.cell_of_heap d1]; rfl
            have e3 : W5.cell? ⟨w.heap.size + 1 + 1, 3, none⟩ = some (.slice (some ⟨wr.heap.size, 0, none⟩) 0 0) := by rw [Lib.cell_of_heap d1]; rfl
            have e4 : W5.cell? ⟨w.heap.size + 1 + 1, 4, none⟩ = some (.slice a9 j c9) := by rw [Lib.cell_of_heap d1]; rfl
            have e5 : W5.cell? ⟨w.heap.size + 1 + 1, 5, none⟩ = some (.slice none 0 0) := by rw [Lib.cell_of_heap d1]; rfl
            have e6 : W5.cell? ⟨w.heap.size + 1 + 1, 6, none⟩ = some (.slice none 0 0) := by rw [Lib.cell_of_heap d1]; rfl
            have HD2 := Lib.hid d2
            clear d1 d2 q1 q2 HBW HMM c3 HY
            go_wp2_with (refine wpList_store_row rfl 27 (.tmp 4) (.tmp 76) rfl (w.heap.size + 1) #[.int .i64 3, .int .i64 l, .int .i64 0, .slice (some ⟨wr.heap.size, 0, none⟩) 0 0, .slice a9 j c9, .slice none 0 0, .slice none 0 0] ?_ ?_ 27 _ HD2.out ?_ ?_ ?_ ?_)
            rfl
            rfl
            kernel_rfl
            rfl
            simp [Value.oneCell']
            go_wp2_with fail
            refine bodyPost_ret (res4 _ _ (w.heap.size + 1) #[.int .i64 3, .int .i64 l, .int .i64 0, .slice (some ⟨wr.heap.size, 0, none⟩) 0 0, .slice a9 j c9, .slice none 0 0, .slice none 0 0] rfl (setRow_heap _ _ _ _ _ _ HD2.out) rfl) rfl ?_
            obtain ⟨z1, z2, z3⟩ := done6_out HDN.out (Nat.zero_le _) hn9 #[.int .i64 3, .int .i64 l, .int .i64 0, .slice (some ⟨wr.heap.size, 0, none⟩) 0 0, .slice a9 j c9, .slice none 0 0, .slice none 0 0]
            exact ⟨_, _, rfl, z1, z2, z3⟩
set_option maxRecDepth 100000 in
set_option maxHeartbeats 4000000 in
theorem p6_any (w : World) (b5 o5 N p5 n4 p4 n6 p6 : Nat) (l s : Int) (a4 a6 : Option Addr) (ad : Addr) (p3 : Nat) (ee : List (List Int)) (i : Nat) (hi : i < N) (_hN9 : N ≤ 1000000000) (hN5 : N ≤ p5) (hp5 : p5 ≤ 9223372036854775807) (hb5 : b5 < w.heap.size) (hE : ∀ j, j < N → AreaAt w b5 o5 ee j) (_hp3 : p3 ≤ 9223372036854775807) (es : List Int) (he : ee[i]? = some es) (htl : tJ ee i = 0) (hth : tJ ee (i + 1) = 0) (hx : ∀ x ∈ es, 0 ≤ x ∧ x ≤ 1000000000) :
    Calls Tryz.prog 51 #[.agg #[.int .i64 6, .int .i64 l, .int .i64 s, .slice (some ad) 0 p3, .slice a4 n4 p4, .slice (some ⟨b5, o5, none⟩) N p5, .slice a6 n6 p6], .int .i64 (i : Nat)] w fun e' w' => P6Out l [] (es.map fun x => iv (x - 0)) w e' w' := by
  obtain ⟨i0, hi0, hz0, hz1, hz2⟩ := info_parts info3
  have HE := Lib.hid hE
  have HEI := Lib.hid he
  have HTL := Lib.hid htl
  have HTH := Lib.hid hth
  have HX := Lib.hid hx
  have HZ := Lib.hid hz0
  clear hE he htl hth hx hz0
  go_enter Tryz.func51, Tryz.ntmps51
  go_wp2_with fail
  go_loopg [5, 30] i (fun g v5 v30 wr => ∃ (k : Nat) (p : Int), k + g = i ∧ v5 = .int .i64 p ∧ v30 = .int .i64 k ∧ wr = (w.alloc (.cells #[.int .i64 6, .int .i64 l, .int .i64 s, .slice (some ad) 0 p3, .slice a4 n4 p4, .slice (some ⟨b5, o5, none⟩) N p5, .slice a6 n6 p6] 27)).alloc (.cells #[.int .i64 0, .int .i64 0, .int .i64 0, .slice none 0 0, .slice none 0 0, .slice none 0 0, .slice none 0 0] 27) ∧ Hid (p = tJ ee k))
  case atStart => exact ⟨0, 0, by omega, rfl, rfl, rfl, Lib.hid (by simp [tJ])⟩
  case round =>
    obtain ⟨k, p, hk, rfl, rfl, rfl, HP⟩ := hrel
    by_cases hki : k < i
    · obtain ⟨es', a, n, c, hes, hn, hc, hnc, hn9, hc9, hcl⟩ := HE.out k (by omega)
      have hc' : ((w.alloc (.cells #[.int .i64 6, .int .i64 l, .int .i64 s, .slice (some ad) 0 p3, .slice a4 n4 p4, .slice (some ⟨b5, o5, none⟩) N p5, .slice a6 n6 p6] 27)).alloc (.cells #[.int .i64 0, .int .i64 0, .int .i64 0, .slice none 0 0, .slice none 0 0, .slice none 0 0, .slice none 0 0] 27)).cell? ⟨b5, o5 + k, none⟩ = some (.slice a n c) := by
        rw [Below.cell (B := w.heap.size) (((Below.refl _ _).alloc (Nat.le_refl _) _).alloc (by simp) _) hb5]; exact hc
      have hkN : k < N := by omega
      have HTK : Hid (∀ h : k < ee.length, ee[k] = es') := Lib.hid (fun h => by rw [List.getElem?_eq_getElem h] at hes; exact Option.some.inj hes)
      have HKL : Hid (k < ee.length) := Lib.hid (List.getElem?_eq_some_iff.1 hes).1
      by_cases hn0 : n = 0
      · subst hn0
        have HP' : Hid (p = tJ ee (k + 1)) := Lib.hid (by rw [tJ_succ ee k HKL.out, HTK.out, ← hn, HP.out]; rfl)
        clear hc hcl hes hn HTK HKL HE HX HTL HTH HEI
        go_wp2_with fail
        go_roundg (gk - 1)
        case measure => omega
        case rel => exact ⟨k + 1, p, by omega, rfl, by go_num, rfl, HP'⟩
      · obtain ⟨b, o, rfl, hb, hcl'⟩ := hcl hn0
        obtain ⟨x, hx⟩ : ∃ x, es'[n - 1]? = some x := ⟨_, List.getElem?_eq_getElem (by omega)⟩
        have hcx : ((w.alloc (.cells #[.int .i64 6, .int .i64 l, .int .i64 s, .slice (some ad) 0 p3, .slice a4 n4 p4, .slice (some ⟨b5, o5, none⟩) N p5, .slice a6 n6 p6] 27)).alloc (.cells #[.int .i64 0, .int .i64 0, .int .i64 0, .slice none 0 0, .slice none 0 0, .slice none 0 0, .slice none 0 0] 27)).cell? ⟨b, o + (n - 1), none⟩ = some (.int .i64 x) := by
          rw [Below.cell (B := w.heap.size) (((Below.refl _ _).alloc (Nat.le_refl _) _).alloc (by simp) _) hb]; exact hcl' _ _ hx
        have HP' : Hid (x = tJ ee (k + 1)) := Lib.hid (by
          rw [tJ_succ ee k HKL.out, HTK.out, ← hn]
          unfold prevE
          rw [if_neg hn0, List.getD, hx]; rfl)
        have hn1 : 0 < n := by omega
        clear hc hcl hcl' hes hn hx HTK HKL HE HX HTL HTH HEI HP
        go_wp2_with fail
        go_roundg (gk - 1)
        case measure => omega
        case rel => exact ⟨k + 1, x, by omega, rfl, by go_num, rfl, HP'⟩
    · obtain rfl : k = i := by omega
      obtain ⟨es', a, n, c, hes, hn, hc, hnc, hn9, hc9, hcl⟩ := HE.out k (by omega)
      obtain rfl : es' = es := by have := HEI.out; rw [hes] at this; exact Option.some.inj this
      obtain rfl : p = (0 : Int) := HP.out.trans HTL.out
      have hc' : (((w.alloc (.cells #[.int .i64 6, .int .i64 l, .int .i64 s, .slice (some ad) 0 p3, .slice a4 n4 p4, .slice (some ⟨b5, o5, none⟩) N p5, .slice a6 n6 p6] 27)).alloc (.cells #[.int .i64 0, .int .i64 0, .int .i64 0, .slice none 0 0, .slice none 0 0, .slice none 0 0, .slice none 0 0] 27)).alloc (.cells #[.int .i64 3, .int .i64 l, .int .i64 0, .slice none 0 0, .slice none 0 0, .slice none 0 0, .slice none 0 0] 27)).cell? ⟨b5, o5 + k, none⟩ = some (.slice a n c) := by
        rw [Below.cell (B := w.heap.size) ((((Below.refl _ _).alloc (Nat.le_refl _) _).alloc (by simp) _).alloc (by simp; omega) _) hb5]; exact hc
      have HEN := Lib.hid hn
      clear hc hn
      go_wp2_with fail
      go_loopg [9, 54] n (fun g v9 v54 wr => ∃ (j : Nat) (p : Int) (a9 : Option Addr) (c9 : Nat), j + g = n ∧ v9 = .int .i64 p ∧ v54 = .int .i64 j ∧ Hid (Made6 w wr (.cells #[.int .i64 6, .int .i64 l, .int .i64 s, .slice (some ad) 0 p3, .slice a4 n4 p4, .slice (some ⟨b5, o5, none⟩) N p5, .slice a6 n6 p6] 27) (.cells #[.int .i64 0, .int .i64 0, .int .i64 0, .slice none 0 0, .slice none 0 0, .slice none 0 0, .slice none 0 0] 27) l 0 es' j a9 c9) ∧ Hid (p = prevE 0 es' j))
      case atStart => exact ⟨0, 0, none, 0, by omega, rfl, rfl, Lib.hid ⟨heap3C .., (by rw [List.take_zero]; exact row_none _ _ _), (Below.refl _ _).alloc (by simp) _, by simp⟩, Lib.hid (by simp [prevE])⟩
      case round =>
        obtain ⟨j, p, a9, c9, hj, rfl, rfl, HM, HP⟩ := hrel
        by_cases hjn : j < n
        · obtain ⟨b, o, rfl, hb, hcl'⟩ := hcl (by omega)
          obtain ⟨x, hx⟩ : ∃ x, es'[j]? = some x := ⟨_, List.getElem?_eq_getElem (by have := HEN.out; omega)⟩
          have hcx : wr.cell? ⟨b, o + j, none⟩ = some (.int .i64 x) := by
            rw [HM.out.2.2.1.cell (show b < _ by omega), Below.cell (B := w.heap.size) (((Below.refl _ _).alloc (Nat.le_refl _) _).alloc (by simp) _) hb]; exact hcl' _ _ hx
          have hxr := HX.out x (List.mem_of_getElem? hx)
          have c4 : wr.cell? ⟨w.heap.size + 1 + 1, 4, none⟩ = some (.slice a9 j c9) := by rw [Lib.cell_of_heap HM.out.1]; rfl
          have HXJ := Lib.hid hx
          have HP' : Hid (x = prevE 0 es' (j + 1)) := Lib.hid (by unfold prevE; rw [if_neg (by omega), Nat.add_sub_cancel, List.getD, hx]; rfl)
          have hsz := HM.out.2.2.2
          have hPlt : w.heap.size + 1 + 1 < wr.heap.size := by omega
          clear hcl hcl' hx hc' hes HE HX HTL HTH HEI HP
          go_wp2_with (at_builtin; refine append_one _ rfl _ _ 23 rfl (w.heap.size + 1 + 1 + 1) 3 i0 (.int .i64 0) 8 Tryz.underlying23 hi0 HZ.out hz1 hz2 rfl (.slice a9 j c9) j ((es'.take j).map fun x => iv (x - 0)) rfl (HM.out.2.1.alloc _) ⟨wr.heap.size, 0, none⟩ 1 (.int .i64 (x - 0)) rfl (by go_cell) rfl (by omega) (by omega) (by simp; omega) ?_; intro v'' w3 hown hgrow hfresh; obtain ⟨a', c', rfl, q1, q2, hmade⟩ := made6_step HM.out HXJ.out hown hgrow; have HM' := Lib.hid hmade; clear hown hgrow hfresh hmade HM)
          go_roundg (gk - 1)
          case measure => omega
          case rel => exact ⟨j + 1, x, a', c', by omega, rfl, by go_num, HM', HP'⟩
        · obtain rfl : j = n := by omega
          obtain ⟨i1, hi1, hy0, hy1, hy2⟩ := info_parts info32
          obtain ⟨k1, k2, k3, k4⟩ := HM.out
          have HY := Lib.hid hy0
          have hbx : ∀ b, b < w.heap.size + 1 + 1 → wr.heap[b]? = ((w.alloc (.cells #[.int .i64 6, .int .i64 l, .int .i64 s, .slice (some ad) 0 p3, .slice a4 n4 p4, .slice (some ⟨b5, o5, none⟩) N p5, .slice a6 n6 p6] 27)).alloc (.cells #[.int .i64 0, .int .i64 0, .int .i64 0, .slice none 0 0, .slice none 0 0, .slice none 0 0, .slice none 0 0] 27)).heap[b]? := k3.block
          have hR : wr.heap[w.heap.size + 1]? = some (.cells #[.int .i64 0, .int .i64 0, .int .i64 0, .slice none 0 0, .slice none 0 0, .slice none 0 0, .slice none 0 0] 27) := by rw [hbx _ (by omega)]; exact heap_alloc2_new _ _ _
          have hBX : wr.heap[w.heap.size]? = some (.cells #[.int .i64 6, .int .i64 l, .int .i64 s, .slice (some ad) 0 p3, .slice a4 n4 p4, .slice (some ⟨b5, o5, none⟩) N p5, .slice a6 n6 p6] 27) := by
            rw [hbx _ (by omega), Below.heap_alloc _ _ _ (by simp)]; exact heap_alloc_new _ _
          have c3 : wr.cell? ⟨w.heap.size, 3, none⟩ = some (.slice (some ad) 0 p3) := by rw [Lib.cell_of_heap hBX]; rfl
          have hPp : p = 0 := by
            have hkl : k < ee.length := (List.getElem?_eq_some_iff.1 hes).1
            have hek : ee[k] = es' := by rw [List.getElem?_eq_getElem hkl] at hes; exact Option.some.inj hes
            have hth := HTH.out
            rw [tJ_succ ee k hkl, HTL.out, hek, ← HEN.out] at hth
            exact HP.out.trans hth
          subst hPp
          have hBw : Below w.heap.size w wr := (((Below.refl _ _).alloc (Nat.le_refl _) _).alloc (by simp) _).trans (k3.mono (by omega))
          have HBW := Lib.hid hBw
          have HMM := HM
          have hBw2 : w.heap.size ≤ wr.heap.size := by omega
          have hlt : w.heap.size < wr.heap.size := by omega
          clear hcl hc' hes HE HX HTL HTH HEI HP hbx hBX hR hBw k1 k2 k3 HM hy0
          obtain ⟨q1, q2, hdn⟩ := made6_done (m := 0) (F := []) HMM.out HEN.out (own_empty wr 32) (grown_refl _ _)
          have HDN := Lib.hid hdn
          clear hdn
          go_upto_region 20 with (fail)
          all_goals
            generalize (wr.alloc (.cells #[] 32)).setCell ⟨w.heap.size + 1 + 1, 3, none⟩ (.slice (some ⟨wr.heap.size, 0, none⟩) 0 0) = W5 at *
            obtain ⟨d1, d2, _⟩ := HDN.out
            have e0 : W5.cell? ⟨w.heap.size + 1 + 1, 0, none⟩ = some (.int .i64 3) := by rw [Lib.cell_of_heap d1]; rfl
            have e1 : W5.cell? ⟨w.heap.size + 1 + 1, 1, none⟩ = some (.int .i64 l) := by rw [Lib.cell_of_heap d1]; rfl
            have e2 : W5.cell? ⟨w.heap.size + 1 + 1, 2, none⟩ = some (.int .i64 0) := by rw [Lib.cell_of_heap d1]; rfl
            have e3 : W5.cell? ⟨w.heap.size + 1 + 1, 3, none⟩ = some (.slice (some ⟨wr.heap.size, 0, none⟩) 0 0) := by rw [Lib.cell_of_heap d1]; rfl
            have e4 : W5.cell? ⟨w.heap.size + 1 + 1, 4, none⟩ = some (.slice a9 j c9) := by rw [Lib.cell_of_heap d1]; rfl
            have e5 : W5.cell? ⟨w.heap.size + 1 + 1, 5, none⟩ = some (.slice none 0 0) := by rw [Lib.cell_of_heap d1]; rfl
            have e6 : W5.cell? ⟨w.heap.size + 1 + 1, 6, none⟩ = some (.slice none 0 0) := by rw [Lib.cell_of_heap d1]; rfl
            have HD2 := Lib.hid d2
            clear d1 d2 q1 q2 HBW HMM c3 HY
            go_wp2_with (refine wpList_store_row rfl 27 (.tmp 4) (.tmp 76) rfl (w.heap.size + 1) #[.int .i64 3, .int .i64 l, .int .i64 0, .slice (some ⟨wr.heap.size, 0, none⟩) 0 0, .slice a9 j c9, .slice none 0 0, .slice none 0 0] ?_ ?_ 27 _ HD2.out ?_ ?_ ?_ ?_)
            rfl
            rfl
            kernel_rfl
            rfl
            simp [Value.oneCell']
            go_wp2_with fail
            refine bodyPost_ret (res4 _ _ (w.heap.size + 1) #[.int .i64 3, .int .i64 l, .int .i64 0, .slice (some ⟨wr.heap.size, 0, none⟩) 0 0, .slice a9 j c9, .slice none 0 0, .slice none 0 0] rfl (setRow_heap _ _ _ _ _ _ HD2.out) rfl) rfl ?_
            obtain ⟨z1, z2, z3⟩ := done6_out HDN.out (Nat.zero_le _) hn9 #[.int .i64 3, .int .i64 l, .int .i64 0, .slice (some ⟨wr.heap.size, 0, none⟩) 0 0, .slice a9 j c9, .slice none 0 0, .slice none 0 0]
            exact ⟨_, _, rfl, z1, z2, z3⟩
end Go.Proofs.YtlmilelopajdiaaGreatDoor
