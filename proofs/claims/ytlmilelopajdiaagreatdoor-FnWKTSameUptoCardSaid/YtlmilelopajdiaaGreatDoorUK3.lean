/-
  Plain law: the statement's texts of parts are the package's; how long a text is.
-/
import Derived.Test.YtlmilelopajdiaaGreatDoorUJ7
import Derived.Test.YtlmilelopajdiaaGreatDoorUH0
import Derived.Test.YtlmilelopajdiaaGreatDoorUH7
namespace Go.Proofs.YtlmilelopajdiaaGreatDoor
open Go.RowKit

theorem rowN_place (dg : Int) (st : Nat) (xs : List Nat) (h : xs.length ≤ st) : ∀ n, n ≤ xs.length → rowN dg st xs n = placeS dg (xs.take n) := by
  intro n
  induction n with
  | zero => intro _; simp [rowN, placeS]
  | succ n ih =>
    intro hn
    rw [rowN_succ, ih (by omega), take_place dg xs n (by omega)]
    have hg : xs.getD n 0 = xs[n] := by rw [List.getD, List.getElem?_eq_getElem (by omega)]; rfl
    rw [hg]
    by_cases h0 : n = 0
    · subst h0; simp
    · have hm : n % st ≠ 0 := by rw [Nat.mod_eq_of_lt (by omega)]; exact h0
      simp [h0, hm]
theorem line_place (dg : Int) (st : Nat) (xs : List Nat) (h : xs.length ≤ st) : lineS dg st xs = [40] ++ placeS dg xs ++ [41] := by
  unfold lineS
  rw [rowN_place dg st xs h xs.length (Nat.le_refl _), List.take_length]
theorem seg_nilK {xs : List Nat} {s e : Nat} (he : e ≤ xs.length) : (xs.take e).drop s = [] ↔ e ≤ s := by
  rw [List.drop_eq_nil_iff, List.length_take]; omega
/-- A part that is written as a line. -/
theorem partT_line (dg : Int) (st : Nat) (f : List Nat) (a : Int) (e : List Int) (i : Nat) (hE : (e.getD i 0).toNat ≤ f.length) : plT dg st ((f.take (e.getD i 0).toNat).drop (prevE a e i).toNat) = partT (lineS dg st) f a.toNat (nats e) i := by
  unfold partT segT plT
  rw [stAt_prev, nats_getD]
  by_cases h : (e.getD i 0).toNat ≤ (prevE a e i).toNat
  · rw [if_pos ((seg_nilK hE).2 h), if_pos h]
  · rw [if_neg (fun h' => h ((seg_nilK hE).1 h')), if_neg h]
theorem joinN_congr {L M : Nat → List UInt8} (n : Nat) (h : ∀ i, i < n → L i = M i) : joinN L n = joinN M n := by
  induction n with
  | zero => rfl
  | succ n ih => rw [joinN_succ, joinN_succ, ih (fun i hi => h i (by omega)), h n (by omega)]
theorem win_win (f : List Nat) (t T a b : Nat) (h : t + a ≤ T) : (((f.take T).drop t).take a).drop b = (f.take (t + a)).drop (t + b) := by
  apply List.ext_getElem?
  intro i
  simp only [List.getElem?_drop, List.getElem?_take]
  by_cases h1 : b + i < a
  · rw [if_pos h1, if_pos (by omega), if_pos (by omega)]; congr 1; omega
  · rw [if_neg h1, if_neg (by omega)]
/-- Ends that are shifted. -/
theorem map_getD (e : List Int) (t : Int) (k : Nat) (hk : k < e.length) : (e.map fun x => x - t).getD k 0 = e.getD k 0 - t := by
  rw [List.getD, List.getD, List.getElem?_map, List.getElem?_eq_getElem hk]; rfl
theorem prev_map (e : List Int) (t : Int) (k : Nat) (hk : k ≤ e.length) : prevE 0 (e.map fun x => x - t) k = prevE t e k - t := by
  unfold prevE
  by_cases h0 : k = 0
  · rw [if_pos h0, if_pos h0]; omega
  · rw [if_neg h0, if_neg h0, map_getD e t (k - 1) (by omega)]
theorem ends_map {st : Nat} {t : Int} {e : List Int} (h : EndsOk st false t e) : EndsOk st false 0 (e.map fun x => x - t) := by
  intro k hk
  rw [List.length_map] at hk
  obtain ⟨h1, h2, _⟩ := h k hk
  rw [map_getD e t k hk, prev_map e t k (by omega)]
  refine ⟨by omega, ?_, fun h => by cases h⟩
  rw [show e.getD k 0 - t - (prevE t e k - t) = e.getD k 0 - prevE t e k by omega]
  exact h2
/-- What holds of an area's numbers. -/
theorem area_inK {st : Nat} {f : List Nat} {ee : List (List Int)} (h : ∀ j (hj : j < ee.length), EndsOk st false (tJ ee j) ee[j]) (hl : tJ ee ee.length = (f.length : Int)) (j : Nat) (hj : j < ee.length) : 0 ≤ tJ ee j ∧ tJ ee j ≤ tJ ee (j + 1) ∧ tJ ee (j + 1) ≤ (f.length : Int) := by
  have h2 := tJ_mono h (j + 1) ee.length (by omega) (Nat.le_refl _)
  have h3 := tJ_mono h 0 j (Nat.zero_le _) (by omega)
  have h4 : tJ ee 0 = 0 := by simp [tJ]
  have h5 := tJ_mono h j (j + 1) (by omega) (by omega)
  omega
theorem area_part (dg : Int) {st : Nat} {f : List Nat} {ee : List (List Int)} (h : ∀ j (hj : j < ee.length), EndsOk st false (tJ ee j) ee[j]) (hl : tJ ee ee.length = (f.length : Int)) (j : Nat) (hj : j < ee.length) (x : Nat) (hx : x < ee[j].length) :
    plT dg st (((((f.take (tJ ee (j + 1)).toNat).drop (tJ ee j).toNat).take ((ee[j].map fun x => x - tJ ee j).getD x 0).toNat)).drop (prevE 0 (ee[j].map fun x => x - tJ ee j) x).toNat) = partT (lineS dg st) f (tJ ee j).toNat (nats ee[j]) x := by
  obtain ⟨a1, a2, a3⟩ := area_inK h hl j hj
  have b := ends_in (h j hj) x hx
  rw [tJ_succ ee j hj] at a2 a3
  rw [map_getD _ _ x hx, prev_map _ _ x (by omega), win_win _ _ _ _ _ (by rw [tJ_succ ee j hj]; omega)]
  rw [show (tJ ee j).toNat + (ee[j].getD x 0 - tJ ee j).toNat = (ee[j].getD x 0).toNat by omega, show (tJ ee j).toNat + (prevE (tJ ee j) ee[j] x - tJ ee j).toNat = (prevE (tJ ee j) ee[j] x).toNat by omega]
  exact partT_line dg st f (tJ ee j) ee[j] x (by omega)
theorem mem_seg {f : List Nat} {a b x : Nat} (h : x ∈ (f.take a).drop b) : x ∈ f := List.mem_of_mem_take (List.mem_of_mem_drop h)
theorem seg_len (f : List Nat) (a b : Nat) (h : a ≤ f.length) : ((f.take a).drop b).length = a - b := by
  rw [List.length_drop, List.length_take]; omega
/-- Parts of good data are good data. -/
theorem part_good (g : Gm) (hX : GoodX g) (hL : Lay g) (hS : Small g) (i : Nat) (hi : i < numP g) : GoodX (partG g i) ∧ Lay (partG g i) ∧ Small (partG g i) := by
  cases g with
  | mk k l s f e ee kids =>
  rw [lay_eq] at hL
  rw [small_eq] at hS
  obtain ⟨s1, s2, s3, s4, s5, s6, s7⟩ := hS
  by_cases h7 : k = 7
  · subst h7
    rw [goodX_eq] at hX
    have hk : kids[i]? = some (kids.getD i (.mk 0 0 0 [] [] [] [])) := by
      have hi' : i < kids.length := by simpa [numP] using hi
      rw [List.getD, List.getElem?_eq_getElem hi']; rfl
    have hm := List.mem_of_getElem? hk
    have hp : partG (.mk 7 l s f e ee kids) i = kids.getD i (.mk 0 0 0 [] [] [] []) := by simp [partG]
    rw [hp]
    exact ⟨(((hX.2 rfl).1) _ hm).1, hL.2.2.2 _ hm, s7 _ hm⟩
  · rw [goodX_one h7] at hX
    obtain ⟨hd, rfl, he, hk⟩ := hX
    have hl1 := hL.1 h7
    by_cases h6 : k = 6
    · subst h6
      have hi' : i < ee.length := by simpa [numP] using hi
      obtain ⟨h1, h2, _⟩ : (∀ j (hj : j < ee.length), EndsOk (stride l).toNat false (tJ ee j) ee[j]) ∧ tJ ee ee.length = (f.length : Int) ∧ e = [] := by
        rcases hk with ⟨h, _⟩ | ⟨h, _⟩ | ⟨h, _⟩ | ⟨_, h⟩
        · omega
        · omega
        · omega
        · exact h
      obtain ⟨a1, a2, a3⟩ := area_inK h1 h2 i hi'
      have hg : ee.getD i [] = ee[i] := by rw [List.getD, List.getElem?_eq_getElem hi']; rfl
      have hp : partG (.mk 6 l s f e ee []) i = .mk 3 l 0 ((f.take (tJ ee (i + 1)).toNat).drop (tJ ee i).toNat) (ee[i].map fun x => x - tJ ee i) [] [] := by simp [partG, hi']
      have hsl := seg_len f (tJ ee (i + 1)).toNat (tJ ee i).toNat (by omega)
      have hsn : prevE 0 (ee[i].map fun x => x - tJ ee i) (ee[i].map fun x => x - tJ ee i).length = (((f.take (tJ ee (i + 1)).toNat).drop (tJ ee i).toNat).length : Int) := by
        rw [hsl, List.length_map, prev_map _ _ _ (Nat.le_refl _), ← tJ_succ ee i hi']; omega
      rw [hp]
      have hmap := ends_map (h1 i hi')
      have hmod : ((f.take (tJ ee (i + 1)).toNat).drop (tJ ee i).toNat).length % (stride l).toNat = 0 := by
        have hz : ∀ n, n ≤ (ee[i].map fun x => x - tJ ee i).length → (prevE 0 (ee[i].map fun x => x - tJ ee i) n) % ((stride l).toNat : Int) = 0 := by
          intro n
          induction n with
          | zero => intro _; simp [prevE]
          | succ n ih =>
            intro hn
            have h1 := (hmap n (by omega)).2.1
            rw [prev_succ]
            have h2 := ih (by omega)
            rw [← Int.sub_add_cancel ((ee[i].map fun x => x - tJ ee i).getD n 0) (prevE 0 (ee[i].map fun x => x - tJ ee i) n), Int.add_emod, h1, h2]
            rfl
        have := hz _ (Nat.le_refl _)
        rw [hsn] at this
        exact_mod_cast this
      refine ⟨?_, ?_, ?_⟩
      · rw [goodX_one (by decide)]
        exact ⟨hmod, rfl, Or.inl rfl, Or.inr (Or.inr (Or.inl ⟨Or.inl rfl, hmap, hsn⟩))⟩
      · rw [lay_eq]; exact ⟨fun _ => hl1, hL.2.1, hL.2.2.1, fun g hg => by simp at hg⟩
      · rw [small_eq]
        exact ⟨by omega, by rw [List.length_map]; exact s4 _ (List.getElem_mem hi'), by simp, fun es hes => by simp at hes, by simp, fun x hx => s6 x (mem_seg hx), fun g hg => by simp at hg⟩
    · have hk3 : k = 3 ∨ k = 4 ∨ k = 5 := by
        by_cases h : k = 3 ∨ k = 4 ∨ k = 5
        · exact h
        · rw [numP, if_neg h, if_neg h6] at hi
          simp at hi
      have hi' : i < e.length := by rw [numP, if_pos hk3] at hi; exact hi
      obtain ⟨_, h1, h2⟩ : (k = 3 ∨ k = 4 ∨ k = 5) ∧ EndsOk (stride l).toNat (k == 4) 0 e ∧ prevE 0 e e.length = (f.length : Int) := by
        rcases hk with ⟨h, _⟩ | ⟨h, _⟩ | h | ⟨h, _⟩
        · omega
        · omega
        · exact h
        · omega
      have hin := ends_in h1 i hi'
      have hp : partG (.mk k l s f e ee []) i = .mk (if k = 3 then 8 else k - 3) l 0 ((f.take (e.getD i 0).toNat).drop (prevE 0 e i).toNat) [] [] [] := by rw [partG, if_neg h7, if_neg h6]
      have hsl := seg_len f (e.getD i 0).toNat (prevE 0 e i).toNat (by omega)
      have hdv := seg_div hin.1 hin.2.1 (h1 i hi').2.1
      rw [hp]
      refine ⟨?_, ?_, ?_⟩
      · rw [goodX_one (by rcases hk3 with rfl | rfl | rfl <;> decide)]
        refine ⟨by rw [hsl]; exact hdv, rfl, Or.inl rfl, ?_⟩
        by_cases h4 : k = 4
        · subst h4
          have := (h1 i hi').2.2 rfl
          exact Or.inl ⟨by decide, rfl, by rw [hsl]; omega⟩
        · exact Or.inr (Or.inl ⟨by rcases hk3 with rfl | rfl | rfl <;> first | (exact absurd rfl h4) | decide, rfl⟩)
      · rw [lay_eq]; exact ⟨fun _ => hl1, hL.2.1, hL.2.2.1, fun g hg => by simp at hg⟩
      · rw [small_eq]
        exact ⟨by omega, by simp, by simp, fun es hes => by simp at hes, by simp, fun x hx => s6 x (mem_seg hx), fun g hg => by simp at hg⟩

/- How long a text is. -/
theorem rowN_len (dg : Int) (d0 : -1 ≤ dg) (d1 : dg ≤ 20) (st : Nat) (xs : List Nat) (hx : ∀ x ∈ xs, x < 18446744073709551616) : ∀ n, (rowN dg st xs n).length ≤ 100002 * n := by
  intro n
  induction n with
  | zero => simp [rowN]
  | succ n ih =>
    rw [rowN_succ, List.length_append, List.length_append]
    have h1 : xs.getD n 0 < 18446744073709551616 := by
      by_cases hn : n < xs.length
      · rw [List.getD, List.getElem?_eq_getElem hn]; exact hx _ (List.getElem_mem hn)
      · rw [List.getD, List.getElem?_eq_none (by omega)]; decide
    have h2 := numS_len dg _ h1 d0 d1
    have h3 : (if n = 0 then ([] : List UInt8) else if n % st = 0 then [44, 32] else [32]).length ≤ 2 := by
      split
      · simp
      · split <;> simp
    omega
theorem line_len (dg : Int) (d0 : -1 ≤ dg) (d1 : dg ≤ 20) (st : Nat) (xs : List Nat) (hx : ∀ x ∈ xs, x < 18446744073709551616) : (lineS dg st xs).length ≤ 2 + 100002 * xs.length := by
  have := rowN_len dg d0 d1 st xs hx xs.length
  unfold lineS
  simp only [List.length_append, List.length_cons, List.length_nil]
  omega
theorem place_len (dg : Int) (d0 : -1 ≤ dg) (d1 : dg ≤ 20) (xs : List Nat) (hx : ∀ x ∈ xs, x < 18446744073709551616) : (placeS dg xs).length ≤ 100002 * xs.length := by
  have := rowN_len dg d0 d1 xs.length xs hx xs.length
  rw [rowN_place dg _ xs (Nat.le_refl _) _ (Nat.le_refl _), List.take_length] at this
  exact this
theorem joinN_len {α : Type} (F : α → Nat) (xs : List α) (L : Nat → List UInt8) (c : Nat) (h : ∀ i (hi : i < xs.length), (L i).length + 2 ≤ c * F xs[i]) : (joinN L xs.length).length ≤ c * (xs.map F).sum := by
  have H : ∀ n, n ≤ xs.length → (joinN L n).length ≤ c * ((xs.take n).map F).sum := by
    intro n
    induction n with
    | zero => intro _; simp [joinN]
    | succ n ih =>
      intro hn
      rw [joinN_succ, List.length_append, List.length_append, sum_take F xs n (by omega), Nat.mul_add]
      have h1 := ih (by omega)
      have h2 := h n (by omega)
      have h3 : (if n = 0 then ([] : List UInt8) else [44, 32]).length ≤ 2 := by split <;> simp
      omega
  have := H _ (Nat.le_refl _)
  rw [List.take_length] at this
  exact this
theorem seg_text_len (T : List Nat → List UInt8) (f : List Nat) (hT : ∀ xs : List Nat, (∀ x ∈ xs, x ∈ f) → (T xs).length ≤ 2 + 100002 * xs.length) (s e : Nat) : (segT T f s e).length ≤ 7 + 100002 * f.length := by
  unfold segT
  split
  · simp [EMPTY]; omega
  · have h1 := hT ((f.take e).drop s) (fun x hx => mem_seg hx)
    have h2 : ((f.take e).drop s).length ≤ f.length := by rw [List.length_drop, List.length_take]; omega
    omega
theorem parts_len (T : List Nat → List UInt8) (f : List Nat) (hT : ∀ xs : List Nat, (∀ x ∈ xs, x ∈ f) → (T xs).length ≤ 2 + 100002 * xs.length) (s : Nat) (es : List Nat) : (partsT T f s es).length ≤ 2 + 100011 * (f.length + 1) * es.length := by
  unfold partsT
  have h := joinN_len (fun _ => 1) es (partT T f s es) (100011 * (f.length + 1)) (fun i hi => by
    have := seg_text_len T f hT (stAt s es i) (es.getD i 0)
    unfold partT
    omega)
  have h1 : (es.map fun _ => 1).sum = es.length := by
    clear h
    induction es with
    | nil => rfl
    | cons a t ih => rw [List.map_cons, List.sum_cons, ih, List.length_cons]; omega
  rw [h1] at h
  simp only [List.length_append, List.length_cons, List.length_nil]
  omega
theorem areas_len (dg : Int) (d0 : -1 ≤ dg) (d1 : dg ≤ 20) (st : Nat) (f : List Nat) (hx : ∀ x ∈ f, x < 18446744073709551616) (ess : List (List Nat)) : (areasT dg st f ess).length ≤ 2 + 100011 * (f.length + 1) * (ess.map fun es => 1 + es.length).sum := by
  unfold areasT
  have h := joinN_len (fun es : List Nat => 1 + es.length) ess (areaT dg st f ess) (100011 * (f.length + 1)) (fun i hi => by
    unfold areaT
    have hg : ess.getD i [] = ess[i] := by rw [List.getD, List.getElem?_eq_getElem hi]; rfl
    rw [hg, Nat.mul_add, Nat.mul_one]
    split
    · simp only [EMPTY, List.length_cons, List.length_nil]; omega
    · have := parts_len (lineS dg st) f (fun xs hxs => line_len dg d0 d1 st xs (fun x hx' => hx x (hxs x hx'))) (stE ess i) ess[i]
      omega)
  simp only [List.length_append, List.length_cons, List.length_nil]
  omega
theorem flat_len (dg : Int) (d0 : -1 ≤ dg) (d1 : dg ≤ 20) (k l : Int) (f : List Nat) (e : List Int) (ee : List (List Int)) (hx : ∀ x ∈ f, x < 18446744073709551616) : (flatT dg k l f e ee).length ≤ 7 + 100011 * (f.length + 1) * (1 + e.length + (ee.map fun es => 1 + es.length).sum) := by
  have hE : EMPTY.length = 5 := rfl
  have hl := line_len dg d0 d1 (stride l).toNat f hx
  have hp := place_len dg d0 d1 f hx
  have q1 := parts_len (lineS dg (stride l).toNat) f (fun xs hxs => line_len dg d0 d1 _ xs (fun x hx' => hx x (hxs x hx'))) 0 (nats e)
  have q2 := parts_len (placeS dg) f (fun xs hxs => by have := place_len dg d0 d1 xs (fun x hx' => hx x (hxs x hx')); omega) 0 (nats e)
  have q3 := areas_len dg d0 d1 (stride l).toNat f hx (ee.map nats)
  have hs : ((ee.map nats).map fun es => 1 + es.length).sum = (ee.map fun es => 1 + es.length).sum := by
    rw [List.map_map]
    congr 1
    apply List.map_congr_left
    intro es _
    show 1 + (nats es).length = _
    rw [nats_len]
  rw [hs] at q3
  rw [nats_len] at q1 q2
  rw [Nat.mul_add, Nat.mul_add, Nat.mul_one]
  obtain ⟨X, hX⟩ : ∃ X, X = 100011 * (f.length + 1) * e.length := ⟨_, rfl⟩
  obtain ⟨Y, hY⟩ : ∃ Y, Y = 100011 * (f.length + 1) * (ee.map fun es => 1 + es.length).sum := ⟨_, rfl⟩
  rw [← hX] at q1 q2 ⊢
  rw [← hY] at q3 ⊢
  unfold flatT
  repeat' split
  all_goals (try simp only [List.length_append, List.length_cons, List.length_nil])
  all_goals omega
theorem text_len (dg : Int) (d0 : -1 ≤ dg) (d1 : dg ≤ 20) (V : Nat) : ∀ g, Small g → wT g ≤ V → (textT dg g).length + 2 ≤ 1000000 * V * wT g := by
  intro g
  induction g using Gm.ind with
  | h k l s f e ee kids ih =>
    intro hS hV
    have hkid := fun g (hg : g ∈ kids) => Nat.le_trans (wT_kid (k := k) (l := l) (s := s) (f := f) (e := e) (ee := ee) hg) hV
    rw [small_eq] at hS
    obtain ⟨s1, s2, s3, s4, s5, s6, s7⟩ := hS
    rw [textT_eq, List.length_append]
    have hh := head_len k (layoutT (.mk k l s f e ee kids))
    rw [wT_eq] at hV ⊢
    have hV1 : 1 ≤ V := by omega
    by_cases h7 : k = 7
    · rw [if_pos h7]
      have hk : (kidsT (kids.map (textT dg))).length ≤ 7 + 1000000 * V * (kids.map wT).sum := by
        unfold kidsT
        split
        · simp only [EMPTY, List.length_cons, List.length_nil]; omega
        · rw [List.length_map]
          have h := joinN_len wT kids (fun i => (kids.map (textT dg)).getD i []) (1000000 * V) (fun i hi => by
            have hg : (kids.map (textT dg)).getD i [] = textT dg kids[i] := by rw [List.getD, List.getElem?_map, List.getElem?_eq_getElem hi]; rfl
            simp only [hg]
            exact ih _ (List.getElem_mem hi) (s7 _ (List.getElem_mem hi)) (hkid _ (List.getElem_mem hi)))
          simp only [List.length_append, List.length_cons, List.length_nil]
          omega
      rw [Nat.mul_add]
      have h1 : 1000000 * V * 1 ≤ 1000000 * V * (1 + f.length + e.length + (ee.map fun es => 1 + es.length).sum) := Nat.mul_le_mul_left _ (by omega)
      omega
    · rw [if_neg h7]
      have hf := flat_len dg d0 d1 k l f e ee s6
      have h1 : 100011 * (f.length + 1) * (1 + e.length + (ee.map fun es => 1 + es.length).sum) ≤ 100011 * V * (1 + f.length + e.length + (ee.map fun es => 1 + es.length).sum + (kids.map wT).sum) := Nat.mul_le_mul (Nat.mul_le_mul_left _ (by omega)) (by omega)
      obtain ⟨W, hW⟩ : ∃ W, W = 1 + f.length + e.length + (ee.map fun es => 1 + es.length).sum + (kids.map wT).sum := ⟨_, rfl⟩
      rw [← hW] at h1 ⊢
      have hW1 : 1 ≤ W := by omega
      have h2 : 1 ≤ V * W := Nat.mul_le_mul hV1 hW1
      rw [Nat.mul_assoc 100011 V W] at h1
      rw [Nat.mul_assoc 1000000 V W]
      omega
end Go.Proofs.YtlmilelopajdiaaGreatDoor
