/-
  The statement's side: body of good data, whole; its text is the package's.
-/
import Derived.Test.YtlmilelopajdiaaGreatDoorUK1
import Derived.Test.YtlmilelopajdiaaGreatDoorUK4
import Derived.Test.YtlmilelopajdiaaGreatDoorUK5
namespace Go.Proofs.YtlmilelopajdiaaGreatDoor
open Go.RowKit

theorem arep_flat {w : World} {B : Nat} {g : Gm} {cs : List Value} (h : ARep w B g cs) : Row w B (cs.getD 3 undef) (g.flat.map fv) := by
  cases g
  rw [arep_eq] at h
  obtain ⟨vf, ve, vee, vk, e1, hrf, _⟩ := h
  rw [e1]; exact hrf
theorem small_flat {g : Gm} (h : Small g) : ∀ x ∈ g.flat, x < 18446744073709551616 := by
  cases g
  rw [small_eq] at h
  exact h.2.2.2.2.2.1
theorem small_flat_len {g : Gm} (h : Small g) : g.flat.length ≤ 1000000 := by
  cases g
  rw [small_eq] at h
  exact h.1
theorem small_num {g : Gm} (h : Small g) : numP g ≤ 1000000 := by
  cases g
  rw [small_eq] at h
  simp only [numP]
  obtain ⟨_, h2, h3, _, h5, _⟩ := h
  split
  · exact h2
  · split
    · exact h3
    · exact h5
/-- A geometry that is one line. -/
theorem body1 (g : Gm) (hk : g.kind = 1 ∨ g.kind = 2 ∨ g.kind = 8) (hX : GoodX g) (hL : Lay g) (hS : Small g) (w : World) (B : Nat) (cs : List Value) (h : ARep w B g cs) (hB : B ≤ w.heap.size) (hT : Tabs w.heap.size w) (dg : Int) (d0 : -1 ≤ dg) (d1 : dg ≤ 20) (st : Nat) (hst : 1 ≤ st) (hst2 : st ≤ 1000) (whole : Bool) :
    Calls Tryz.prog 12 #[.agg cs.toArray, .int .i64 (st : Nat), .int .i64 dg, .bool whole] w fun en w' => BodyOut (plT dg st g.flat) true w en w' := by
  have hF := (gp_good g hX hL hS).1
  have hx := small_flat hS
  have hn := small_num hS
  have hlen : (lineS dg st g.flat).length ≤ 70000000000000 := by
    have h1 := line_len dg d0 d1 st g.flat hx
    have h2 := small_flat_len hS
    omega
  cases g with
  | mk k l s f e ee kids =>
  rcases (show k = 1 ∨ k = 2 ∨ k = 8 from hk) with rfl | rfl | rfl
  · exact body1k1 l s f e ee kids hX hF w B cs h hB hn st dg whole hx hT d0 d1 hst hst2 hlen
  · exact body1k2 l s f e ee kids hX hF w B cs h hB hn st dg whole hx hT d0 d1 hst hst2 hlen
  · exact body1k8 l s f e ee kids hX hF w B cs h hB hn st dg whole hx hT d0 d1 hst hst2 hlen
/-- The text of a polygon's rings. -/
noncomputable def ringsT (dg : Int) (st : Nat) (g : Gm) : List UInt8 := [40] ++ joinN (fun i => plT dg st (partG g i).flat) (numP g) ++ [41]
theorem joinN_part (L : Nat → List UInt8) (n i : Nat) (h : i < n) : (L i).length ≤ (joinN L n).length := by
  have h1 := joinN_mono L (i + 1) n h
  rw [joinN_succ, List.length_append] at h1
  omega
theorem numP_good {g : Gm} (hX : GoodX g) (h : g.kind = 1 ∨ g.kind = 2 ∨ g.kind = 8) : numP g = 0 := by
  cases g with
  | mk k l s f e ee kids =>
  have h : k = 1 ∨ k = 2 ∨ k = 8 := h
  rw [goodX_one (by omega)] at hX
  rw [numP, if_neg (by omega), if_neg (by omega), hX.2.1]; rfl
/-- A polygon that has numbers, or is no whole one. -/
theorem bodyRings (g : Gm) (hk : g.kind = 3) (hX : GoodX g) (hL : Lay g) (hS : Small g) (w : World) (B : Nat) (cs : List Value) (h : ARep w B g cs) (hB : B ≤ w.heap.size) (hT : Tabs w.heap.size w) (dg : Int) (d0 : -1 ≤ dg) (d1 : dg ≤ 20) (st : Nat) (hst : 1 ≤ st) (hst2 : st ≤ 1000) (whole : Bool) (hw : g.flat ≠ [] ∨ whole = false) (hlen : (ringsT dg st g).length ≤ 70000000000000) :
    Calls Tryz.prog 12 #[.agg cs.toArray, .int .i64 (st : Nat), .int .i64 dg, .bool whole] w fun en w' => BodyOut (if numP g = 0 then EMPTY else ringsT dg st g) true w en w' := by
  have hF := (gp_good g hX hL hS).1
  have hn := small_num hS
  have HC : ∀ i, i < numP g → ∀ w' c, Below w.heap.size w w' → ARep w' w'.heap.size (partG g i) c → Calls Tryz.prog 12 #[.agg c.toArray, .int .i64 (st : Nat), .int .i64 dg, .bool false] w' fun en w'' => BodyOut (plT dg st (partG g i).flat) true w' en w'' := by
    intro i hi w' c hb hc
    obtain ⟨hX', hL', hS'⟩ := part_good g hX hL hS i hi
    refine body1 _ ?_ hX' hL' hS' w' _ c hc (Nat.le_refl _) ((hT.below hb).mono hb.size) dg d0 d1 st hst hst2 false
    cases g with
    | mk k l s f e ee kids =>
    obtain rfl : k = 3 := hk
    exact Or.inr (Or.inr rfl)
  cases g with
  | mk k l s f e ee kids =>
  obtain rfl : k = 3 := hk
  by_cases h0 : numP (.mk 3 l s f e ee kids) = 0
  · rw [if_pos h0]
    by_cases hf : f = []
    · exact bodyE3b l s f e ee kids hX hF w B cs h hB hn st dg whole hf (by rcases hw with h | h; exact absurd hf h; exact h) h0
    · exact bodyE3c l s f e ee kids hX hF w B cs h hB hn st dg whole hf h0
  · rw [if_neg h0]
    by_cases hf : f = []
    · exact bodyL3b l s f e ee kids hX hF w B cs h hB hn (by omega) st dg whole hf (by rcases hw with h | h; exact absurd hf h; exact h) _ hlen HC
    · exact bodyL3a l s f e ee kids hX hF w B cs h hB hn (by omega) st dg whole hf _ hlen HC
theorem good_ends {k l s : Int} {f : List Nat} {e : List Int} {ee : List (List Int)} {kids : List Gm} (hX : GoodX (.mk k l s f e ee kids)) (hk : k = 3 ∨ k = 4 ∨ k = 5) : EndsOk (stride l).toNat (k == 4) 0 e ∧ prevE 0 e e.length = (f.length : Int) := by
  rw [goodX_one (by omega)] at hX
  obtain ⟨_, _, _, hq⟩ := hX
  rcases hq with ⟨h, _⟩ | ⟨h, _⟩ | ⟨_, h⟩ | ⟨h, _⟩
  · omega
  · omega
  · exact h
  · omega
theorem good_areas {l s : Int} {f : List Nat} {e : List Int} {ee : List (List Int)} {kids : List Gm} (hX : GoodX (.mk 6 l s f e ee kids)) : (∀ j (hj : j < ee.length), EndsOk (stride l).toNat false (tJ ee j) ee[j]) ∧ tJ ee ee.length = (f.length : Int) := by
  rw [goodX_one (by omega)] at hX
  obtain ⟨_, _, _, hq⟩ := hX
  rcases hq with ⟨h, _⟩ | ⟨h, _⟩ | ⟨h, _⟩ | ⟨_, h1, h2, _⟩
  · omega
  · omega
  · omega
  · exact ⟨h1, h2⟩
theorem part_flat {k l s : Int} {f : List Nat} {e : List Int} {ee : List (List Int)} {kids : List Gm} (hk : k = 3 ∨ k = 4 ∨ k = 5) (i : Nat) : (partG (.mk k l s f e ee kids) i).flat = (f.take (e.getD i 0).toNat).drop (prevE 0 e i).toNat := by
  rw [partG, if_neg (by omega), if_neg (by omega)]; rfl
/-- Rings, lines: the texts are the package's. -/
theorem part_text {k l s : Int} {f : List Nat} {e : List Int} {ee : List (List Int)} {kids : List Gm} (hX : GoodX (.mk k l s f e ee kids)) (hk : k = 3 ∨ k = 4 ∨ k = 5) (dg : Int) (i : Nat) (hi : i < e.length) : plT dg (stride l).toNat (partG (.mk k l s f e ee kids) i).flat = partT (lineS dg (stride l).toNat) f 0 (nats e) i := by
  obtain ⟨h1, h2⟩ := good_ends hX hk
  have hin := ends_in h1 i hi
  rw [part_flat hk i]
  exact partT_line dg _ f 0 e i (by omega)
theorem rings_text {l s : Int} {f : List Nat} {e : List Int} {ee : List (List Int)} {kids : List Gm} (hX : GoodX (.mk 3 l s f e ee kids)) (dg : Int) : ringsT dg (stride l).toNat (.mk 3 l s f e ee kids) = partsT (lineS dg (stride l).toNat) f 0 (nats e) := by
  have hn : numP (.mk 3 l s f e ee kids) = e.length := by simp [numP]
  unfold ringsT partsT
  rw [hn, nats_len, joinN_congr _ (fun i hi => part_text hX (Or.inl rfl) dg i hi)]
/-- An area: the text is the package's. -/
theorem area_text {l s : Int} {f : List Nat} {e : List Int} {ee : List (List Int)} {kids : List Gm} (hX : GoodX (.mk 6 l s f e ee kids)) (dg : Int) (j : Nat) (hj : j < ee.length) : (if numP (partG (.mk 6 l s f e ee kids) j) = 0 then EMPTY else ringsT dg (stride l).toNat (partG (.mk 6 l s f e ee kids) j)) = areaT dg (stride l).toNat f (ee.map nats) j := by
  obtain ⟨h1, h2⟩ := good_areas hX
  have hg : (ee.map nats).getD j [] = nats ee[j] := by rw [List.getD, List.getElem?_map, List.getElem?_eq_getElem hj]; rfl
  have hp : partG (.mk 6 l s f e ee kids) j = .mk 3 l 0 ((f.take (tJ ee (j + 1)).toNat).drop (tJ ee j).toNat) (ee[j].map fun x => x - tJ ee j) [] [] := by
    simp [partG, hj]
  have hn : numP (partG (.mk 6 l s f e ee kids) j) = ee[j].length := by rw [hp]; simp [numP]
  unfold areaT
  rw [hn, hg, stE_tJ h1 j (by omega)]
  by_cases h0 : ee[j].length = 0
  · rw [if_pos h0, if_pos (List.length_eq_zero_iff.1 (by rw [nats_len]; exact h0))]
  · rw [if_neg h0, if_neg (by intro h; have := congrArg List.length h; rw [nats_len] at this; exact h0 this)]
    unfold ringsT partsT
    rw [hn, nats_len]
    congr 2
    refine joinN_congr _ fun x hx => ?_
    have : (partG (partG (.mk 6 l s f e ee kids) j) x).flat = (((f.take (tJ ee (j + 1)).toNat).drop (tJ ee j).toNat).take ((ee[j].map fun x => x - tJ ee j).getD x 0).toNat).drop (prevE 0 (ee[j].map fun x => x - tJ ee j) x).toNat := by
      rw [hp]; exact part_flat (Or.inl rfl) x
    rw [this]
    exact area_part dg h1 h2 j hj x hx
/-- Good data that is no collection: what stands behind the name. -/
theorem bodyS (k l s : Int) (f : List Nat) (e : List Int) (ee : List (List Int)) (kids : List Gm) (h7 : k ≠ 7) (hX : GoodX (.mk k l s f e ee kids)) (hL : Lay (.mk k l s f e ee kids)) (hS : Small (.mk k l s f e ee kids)) (w : World) (B : Nat) (cs : List Value) (h : ARep w B (.mk k l s f e ee kids) cs) (hB : B ≤ w.heap.size) (hT : Tabs w.heap.size w) (dg : Int) (d0 : -1 ≤ dg) (d1 : dg ≤ 20) (hlen : (flatT dg k l f e ee).length ≤ 70000000000000) :
    Calls Tryz.prog 12 #[.agg cs.toArray, .int .i64 (stride l), .int .i64 dg, .bool true] w fun en w' => BodyOut (flatT dg k l f e ee) true w en w' := by
  have hF := (gp_good _ hX hL hS).1
  have hn := small_num hS
  have hl := (lay_eq ..).1 hL
  obtain ⟨hst, hst1, hst2⟩ := stride_bd l (hl.1 h7) hl.2.2.1
  obtain ⟨st, hste⟩ : ∃ st, st = (stride l).toNat := ⟨_, rfl⟩
  rw [← hste] at hst hst1 hst2
  rw [hst]
  have hk := (fit_eq ..).1 hF
  have hk8 : k = 1 ∨ k = 2 ∨ k = 8 ∨ k = 3 ∨ k = 4 ∨ k = 5 ∨ k = 6 := by omega
  have hone := fun (hk : k = 1 ∨ k = 2 ∨ k = 8) => body1 (.mk k l s f e ee kids) hk hX hL hS w B cs h hB hT dg d0 d1 st hst1 hst2 true
  have hpart : ∀ i, i < numP (.mk k l s f e ee kids) → (partG (.mk k l s f e ee kids) i).kind = 1 ∨ (partG (.mk k l s f e ee kids) i).kind = 2 ∨ (partG (.mk k l s f e ee kids) i).kind = 8 → ∀ w' c, Below w.heap.size w w' → ARep w' w'.heap.size (partG (.mk k l s f e ee kids) i) c → Calls Tryz.prog 12 #[.agg c.toArray, .int .i64 (st : Nat), .int .i64 dg, .bool false] w' fun en w'' => BodyOut (plT dg st (partG (.mk k l s f e ee kids) i).flat) true w' en w'' := by
    intro i hi hkp w' c hb hc
    obtain ⟨hX', hL', hS'⟩ := part_good _ hX hL hS i hi
    exact body1 _ hkp hX' hL' hS' w' _ c hc (Nat.le_refl _) ((hT.below hb).mono hb.size) dg d0 d1 st hst1 hst2 false
  have hpk : (k = 3 ∨ k = 4 ∨ k = 5) → ∀ i, (partG (.mk k l s f e ee kids) i).kind = if k = 3 then 8 else k - 3 := by
    intro hk i
    rw [partG, if_neg (by omega), if_neg (by omega)]; rfl
  rcases hk8 with rfl | rfl | rfl | rfl | rfl | rfl | rfl
  · have he : flatT dg 1 l f e ee = plT dg st f := by
      have : f.length ≤ st := by
        rw [goodX_one (by decide)] at hX
        rcases hX.2.2.2 with ⟨_, _, h⟩ | ⟨h, _⟩ | ⟨h, _⟩ | ⟨h, _⟩
        · rw [hste]; exact h
        · omega
        · omega
        · omega
      unfold flatT plT
      rw [if_pos rfl, line_place dg st f this]
    rw [he]
    exact hone (Or.inl rfl)
  · have he : flatT dg 2 l f e ee = plT dg st f := by unfold flatT plT; rw [if_neg (by decide), if_pos rfl, hste]
    rw [he]
    exact hone (Or.inr (Or.inl rfl))
  · have he : flatT dg 8 l f e ee = plT dg st f := by unfold flatT plT; rw [if_neg (by decide), if_neg (by decide), if_pos rfl, hste]
    rw [he]
    exact hone (Or.inr (Or.inr rfl))
  · by_cases hf : f = []
    · have he : flatT dg 3 l f e ee = EMPTY := by unfold flatT; rw [if_neg (by decide), if_neg (by decide), if_neg (by decide), if_pos rfl, if_pos hf]
      rw [he]
      exact bodyE3a l s f e ee kids hX hF w B cs h hB hn st dg true hf rfl
    · have he : flatT dg 3 l f e ee = ringsT dg st (.mk 3 l s f e ee kids) := by
        unfold flatT
        rw [if_neg (by decide), if_neg (by decide), if_neg (by decide), if_pos rfl, if_neg hf, hste, rings_text hX]
      rw [he] at hlen ⊢
      have hn0 : numP (.mk 3 l s f e ee kids) ≠ 0 := by
        intro h0
        have he0 : e.length = 0 := by simpa [numP] using h0
        have h2 := (good_ends hX (Or.inl rfl)).2
        rw [he0] at h2
        have h3 : (0 : Int) = f.length := h2
        exact hf (List.length_eq_zero_iff.1 (by omega))
      have := bodyRings _ rfl hX hL hS w B cs h hB hT dg d0 d1 st hst1 hst2 true (Or.inl hf) hlen
      rw [if_neg hn0] at this
      exact this
  · have hN : numP (.mk 4 l s f e ee kids) = e.length := by simp [numP]
    by_cases he0 : e = []
    · have he : flatT dg 4 l f e ee = EMPTY := by unfold flatT; rw [if_neg (by decide), if_neg (by decide), if_neg (by decide), if_neg (by decide), if_pos rfl, if_pos he0]
      rw [he]
      exact bodyE4 l s f e ee kids hX hF w B cs h hB hn st dg true (by rw [hN, he0]; rfl)
    · have he : flatT dg 4 l f e ee = [40] ++ joinN (partT (placeS dg) f 0 (nats e)) (numP (.mk 4 l s f e ee kids)) ++ [41] := by
        unfold flatT partsT
        rw [if_neg (by decide), if_neg (by decide), if_neg (by decide), if_neg (by decide), if_pos rfl, if_neg he0, nats_len, hN]
      rw [he] at hlen ⊢
      obtain ⟨h1, h2⟩ := good_ends hX (Or.inr (Or.inl rfl))
      have hseg : ∀ i, i < e.length → (partG (.mk 4 l s f e ee kids) i).flat.length ≤ st ∧ (partT (placeS dg) f 0 (nats e) i = if (partG (.mk 4 l s f e ee kids) i).flat = [] then EMPTY else placeS dg (partG (.mk 4 l s f e ee kids) i).flat) := by
        intro i hi
        have hin := ends_in h1 i hi
        have h3 := (h1 i hi).2.2 rfl
        rw [part_flat (Or.inr (Or.inl rfl)) i]
        refine ⟨by rw [seg_len _ _ _ (by omega)]; omega, ?_⟩
        unfold partT segT
        rw [show stAt 0 (nats e) i = (prevE 0 e i).toNat from stAt_prev 0 e i, nats_getD]
        by_cases hc : (e.getD i 0).toNat ≤ (prevE 0 e i).toNat
        · rw [if_pos hc, if_pos ((seg_nilK (by omega)).2 hc)]
        · rw [if_neg hc, if_neg (fun h' => hc ((seg_nilK (by omega)).1 h'))]
      refine bodyL4 l s f e ee kids hX hF w B cs h hB hn (by rw [hN]; exact List.length_pos_iff.2 he0) st dg true _ hlen (fun i hi hfl w' c hb hc => ?_) (fun i hi hfl w' c hb hc => ?_)
      · have := hpart i hi (by rw [hpk (Or.inr (Or.inl rfl)) i]; exact Or.inl (by decide)) w' c hb hc
        rw [(hseg i (by omega)).2, if_pos hfl]
        unfold plT at this
        rw [if_pos hfl] at this
        exact this
      · obtain ⟨hX', hL', hS'⟩ := part_good _ hX hL hS i hi
        have hs := hseg i (by omega)
        have h1 := line_len dg d0 d1 st _ (small_flat hS')
        have h2 := small_flat_len hS'
        have := places _ dg st w'.heap.size _ w' (arep_flat hc) (small_flat hS') ((hT.below hb).mono hb.size) (Nat.le_refl _) d0 d1 hst1 hst2 (by omega)
        unfold plT at this
        rw [if_neg hfl, line_place dg st _ hs.1] at this
        rw [hs.2, if_neg hfl]
        exact this
  · have hN : numP (.mk 5 l s f e ee kids) = e.length := by simp [numP]
    by_cases he0 : e = []
    · have he : flatT dg 5 l f e ee = EMPTY := by unfold flatT; rw [if_neg (by decide), if_neg (by decide), if_neg (by decide), if_neg (by decide), if_neg (by decide), if_pos rfl, if_pos he0]
      rw [he]
      exact bodyE5 l s f e ee kids hX hF w B cs h hB hn st dg true (by rw [hN, he0]; rfl)
    · have he : flatT dg 5 l f e ee = [40] ++ joinN (partT (lineS dg st) f 0 (nats e)) (numP (.mk 5 l s f e ee kids)) ++ [41] := by
        unfold flatT partsT
        rw [if_neg (by decide), if_neg (by decide), if_neg (by decide), if_neg (by decide), if_neg (by decide), if_pos rfl, if_neg he0, nats_len, hN, hste]
      rw [he] at hlen ⊢
      refine bodyL5 l s f e ee kids hX hF w B cs h hB hn (by rw [hN]; exact List.length_pos_iff.2 he0) st dg true _ hlen (fun i hi w' c hb hc => ?_)
      have := hpart i hi (by rw [hpk (Or.inr (Or.inr rfl)) i]; exact Or.inr (Or.inl (by decide))) w' c hb hc
      rw [hste, part_text hX (Or.inr (Or.inr rfl)) dg i (by omega), ← hste] at this
      exact this
  · have hN : numP (.mk 6 l s f e ee kids) = ee.length := by simp [numP]
    by_cases he0 : ee = []
    · have he : flatT dg 6 l f e ee = EMPTY := by unfold flatT; rw [if_neg (by decide), if_neg (by decide), if_neg (by decide), if_neg (by decide), if_neg (by decide), if_neg (by decide), if_pos he0]
      rw [he]
      exact bodyE6 l s f e ee kids hX hF w B cs h hB hn st dg true (by rw [hN, he0]; rfl)
    · have he : flatT dg 6 l f e ee = [40] ++ joinN (areaT dg st f (ee.map nats)) (numP (.mk 6 l s f e ee kids)) ++ [41] := by
        unfold flatT areasT
        rw [if_neg (by decide), if_neg (by decide), if_neg (by decide), if_neg (by decide), if_neg (by decide), if_neg (by decide), if_neg he0, List.length_map, hN, hste]
      rw [he] at hlen ⊢
      refine bodyL6 l s f e ee kids hX hF w B cs h hB hn (by rw [hN]; exact List.length_pos_iff.2 he0) st dg true _ hlen (fun i hi w' c hb hc => ?_)
      obtain ⟨hX', hL', hS'⟩ := part_good _ hX hL hS i hi
      have hat := area_text hX dg i (by omega)
      rw [← hste] at hat
      have hk3 : (partG (.mk 6 l s f e ee kids) i).kind = 3 := by simp [partG, Gm.kind]
      have hll := joinN_part (areaT dg st f (ee.map nats)) _ i hi
      rw [List.length_append, List.length_append] at hlen
      have hlr : numP (partG (.mk 6 l s f e ee kids) i) = 0 ∨ (ringsT dg st (partG (.mk 6 l s f e ee kids) i)).length ≤ 70000000000000 := by
        by_cases h0 : numP (partG (.mk 6 l s f e ee kids) i) = 0
        · exact Or.inl h0
        · rw [if_neg h0] at hat
          exact Or.inr (by rw [hat]; omega)
      have := bodyRings _ hk3 hX' hL' hS' w' _ c hc (Nat.le_refl _) ((hT.below hb).mono hb.size) dg d0 d1 st hst1 hst2 false (Or.inr rfl) (by
        rcases hlr with h0 | h0
        · unfold ringsT; rw [h0]; simp [joinN]
        · exact h0)
      rw [hat] at this
      exact this
end Go.Proofs.YtlmilelopajdiaaGreatDoor

/-
  The statement's side: WriteWKT of good data is the package's text.
-/
namespace Go.Proofs.YtlmilelopajdiaaGreatDoor
open Go.RowKit

theorem SpOut.cong {t t' : List UInt8} {p q : Prop} {w w' : World} {e : Ending} (h : SpOut t p w e w') (hpq : p ↔ q) (ht : q → t = t') : SpOut t' q w e w' :=
  ⟨fun hq => by rw [← ht hq]; exact h.1 (hpq.2 hq), fun hq => h.2 (fun hp => hq (hpq.1 hp))⟩
theorem writeAny (k l s : Int) (f : List Nat) (e : List Int) (ee : List (List Int)) (kids : List Gm) (hL : Lay (.mk k l s f e ee kids)) (hk1 : 1 ≤ k) (hk8 : k ≤ 8) (w : World) (B : Nat) (cs : List Value) (h : ARep w B (.mk k l s f e ee kids) cs) (hB : B ≤ w.heap.size) (dg : Int) (t : List UInt8) (ok : Bool) (ht : t.length ≤ 70000000000000)
    (h4 : layoutT (.mk k l s f e ee kids) ≤ 4) (HBO : ∀ w', Below w.heap.size w w' → Calls Tryz.prog 12 #[.agg cs.toArray, .int .i64 (stride (layoutT (.mk k l s f e ee kids))), .int .i64 dg, .bool true] w' fun en w'' => BodyOut t ok w' en w'') :
    Calls Tryz.prog 6 #[.agg cs.toArray, .int .i64 dg] w fun en w' => SpOut (nameT k ++ tagT (layoutT (.mk k l s f e ee kids)) ++ t) (ok = true) w en w' := by
  have hbd := (lay_bd _ hL).1
  rw [nameT_eq]
  obtain ⟨Y, hY⟩ : ∃ Y, Y = layoutT (.mk k l s f e ee kids) := ⟨_, rfl⟩
  rw [← hY] at h4 HBO hbd ⊢
  have h5 : Y = 0 ∨ Y = 1 ∨ Y = 2 ∨ Y = 3 ∨ Y = 4 := by omega
  rcases h5 with h0 | h0 | h0 | h0 | h0
  · have h7 : k = 7 := by
      by_cases h7 : k = 7
      · exact h7
      · rw [layoutT_eq, if_neg (fun h => h7 h.1)] at hY
        have := ((lay_eq ..).1 hL).1 h7
        omega
    subst h7
    rw [h0] at HBO ⊢
    exact specW0 l s f e ee kids hL Y hY h0 w B cs h hB dg t ok ht _ rfl HBO
  · rw [h0] at HBO ⊢
    exact specW1 k l s f e ee kids hL hk1 hk8 Y hY h0 w B cs h hB dg t ok ht _ rfl HBO
  · rw [h0] at HBO ⊢
    exact specW2 k l s f e ee kids hL hk1 hk8 Y hY h0 w B cs h hB dg t ok ht _ rfl HBO
  · rw [h0] at HBO ⊢
    exact specW3 k l s f e ee kids hL hk1 hk8 Y hY h0 w B cs h hB dg t ok ht _ rfl HBO
  · rw [h0] at HBO ⊢
    exact specW4 k l s f e ee kids hL hk1 hk8 Y hY h0 w B cs h hB dg t ok ht _ rfl HBO
theorem stride_nat (l : Int) (h : 0 ≤ l) : stride l = ((stride l).toNat : Int) := by
  have : 0 ≤ stride l := by
    unfold stride
    repeat' split
    all_goals omega
  omega
/-- What spec.WriteWKT answers. -/
def SpAns (dg : Int) (g : Gm) : Prop := ∀ (w : World) (B : Nat) (cs : List Value), ARep w B g cs → B ≤ w.heap.size → Tabs w.heap.size w → Calls Tryz.prog 6 #[.agg cs.toArray, .int .i64 dg] w fun en w' => SpOut (textT dg g) (okT g) w en w'
/-- A geometry has a text, as a bool. -/
noncomputable def okB (g : Gm) : Bool := @decide (okT g) (Classical.propDecidable _)
theorem okB_iff (g : Gm) : okB g = true ↔ okT g := by
  unfold okB
  exact @decide_eq_true_iff _ (Classical.propDecidable _)
theorem specWrite (dg : Int) (d0 : -1 ≤ dg) (d1 : dg ≤ 20) : ∀ g, GoodX g → Lay g → Small g → wT g ≤ 2000 → SpAns dg g := by
  intro g
  induction g using Gm.ind with
  | h k l s f e ee kids ih =>
    intro hX hL hS hV w B cs h hB hT
    have hF := (gp_good _ hX hL hS).1
    have hk := (fit_eq ..).1 hF
    have htl := text_len dg d0 d1 2000 _ hS hV
    have hll := (lay_eq ..).1 hL
    by_cases h4 : layoutT (.mk k l s f e ee kids) ≤ 4
    · by_cases h7 : k = 7
      · subst h7
        have hkid : ∀ g, g ∈ kids → GoodX g ∧ Lay g ∧ Small g ∧ wT g ≤ 2000 := by
          intro g hg
          rw [goodX_eq] at hX
          rw [small_eq] at hS
          exact ⟨((hX.2 rfl).1 g hg).1, hll.2.2.2 g hg, hS.2.2.2.2.2.2 g hg, Nat.le_trans (wT_kid hg) hV⟩
        have hN : numP (.mk 7 l s f e ee kids) = kids.length := by simp [numP]
        have hpg : ∀ i (hi : i < kids.length), partG (.mk 7 l s f e ee kids) i = kids[i] := by
          intro i hi
          simp [partG, hi]
        have hst : stride (layoutT (.mk 7 l s f e ee kids)) = ((stride (layoutT (.mk 7 l s f e ee kids))).toNat : Int) := stride_nat _ (lay_bd _ hL).1
        have hnum := small_num hS
        obtain ⟨st, hste⟩ : ∃ st, st = (stride (layoutT (.mk 7 l s f e ee kids))).toNat := ⟨_, rfl⟩
        rw [← hste] at hst
        by_cases h0 : kids = []
        · have hbody : ∀ w', Below w.heap.size w w' → Calls Tryz.prog 12 #[.agg cs.toArray, .int .i64 (stride (layoutT (.mk 7 l s f e ee kids))), .int .i64 dg, .bool true] w' fun en w'' => BodyOut EMPTY true w' en w'' := by
            intro w' hb
            rw [hst]
            exact bodyE7 l s f e ee kids hX hF w' w'.heap.size cs (ARep.below (hb.mono hB) (by have := hb.size; omega) _ cs h) (Nat.le_refl _) hnum st dg true (by rw [hN, h0]; rfl)
          refine (writeAny 7 l s f e ee kids hL (by decide) (by decide) w B cs h hB dg EMPTY true (by decide) h4 hbody).mono fun en w' hs => hs.cong ?_ ?_
          · rw [okT_eq]
            exact ⟨fun _ => ⟨h4, fun g hg => by rw [h0] at hg; simp at hg⟩, fun _ => rfl⟩
          · intro _
            rw [textT_eq, if_pos rfl, h0]; rfl
        · obtain ⟨L, hLd⟩ : ∃ L : Nat → List UInt8, L = fun i => if okB (partG (.mk 7 l s f e ee kids) i) = true then textT dg (partG (.mk 7 l s f e ee kids) i) else [] := ⟨_, rfl⟩
          obtain ⟨okb, hob⟩ : ∃ okb : Nat → Bool, okb = fun i => okB (partG (.mk 7 l s f e ee kids) i) := ⟨_, rfl⟩
          have hjl := joinN_len wT kids L (1000000 * 2000) (fun i hi => by
            have hm : kids[i] ∈ kids := List.getElem_mem hi
            have hq := text_len dg d0 d1 2000 kids[i] (hkid _ hm).2.2.1 (hkid _ hm).2.2.2
            have h1 : 1 ≤ wT kids[i] := by cases kids[i]; rw [wT_eq]; omega
            rw [hLd]
            simp only [hpg i hi]
            split
            · exact hq
            · simp only [List.length_nil]; omega)
          have hsum : (kids.map wT).sum ≤ 2000 := by rw [wT_eq] at hV; omega
          have hlen : ([40] ++ joinN L (numP (.mk 7 l s f e ee kids)) ++ [41]).length ≤ 70000000000000 := by
            rw [hN, List.length_append, List.length_append]
            simp only [List.length_cons, List.length_nil]
            have : 1000000 * 2000 * (kids.map wT).sum ≤ 1000000 * 2000 * 2000 := Nat.mul_le_mul_left _ hsum
            omega
          have hbody : ∀ w', Below w.heap.size w w' → Calls Tryz.prog 12 #[.agg cs.toArray, .int .i64 (stride (layoutT (.mk 7 l s f e ee kids))), .int .i64 dg, .bool true] w' fun en w'' => BodyOut ([40] ++ joinN L (numP (.mk 7 l s f e ee kids)) ++ [41]) (decide (∀ i, i < numP (.mk 7 l s f e ee kids) → okb i = true)) w' en w'' := by
            intro w' hb
            rw [hst]
            refine (bodyL7 l s f e ee kids hX hF w' w'.heap.size cs (ARep.below (hb.mono hB) (by have := hb.size; omega) _ cs h) (Nat.le_refl _) hnum (by rw [hN]; exact List.length_pos_iff.2 h0) st dg true L okb hlen (fun i hi w2 c hb2 hc => ?_)).mono fun en w'' hq => ?_
            · rw [hN] at hi
              have hm : kids[i] ∈ kids := List.getElem_mem hi
              rw [hpg i hi] at hc
              have := ih _ hm (hkid _ hm).1 (hkid _ hm).2.1 (hkid _ hm).2.2.1 (hkid _ hm).2.2.2 w2 _ c hc (Nat.le_refl _) ((hT.below (hb.trans (hb2.mono hb.size))).mono (by have := hb.size; have := hb2.size; omega))
              refine this.mono fun en w3 hs => ?_
              rw [hLd, hob]
              simp only [hpg i hi]
              cases ho : okB kids[i] with
              | true => rw [if_pos rfl]; exact hs.1 ((okB_iff _).1 ho)
              | false => rw [if_neg (by simp)]; exact hs.2 (fun hh => by rw [(okB_iff _).2 hh] at ho; cases ho)
            · exact hq
          refine (writeAny 7 l s f e ee kids hL (by decide) (by decide) w B cs h hB dg _ _ hlen h4 hbody).mono fun en w' hs => hs.cong ?_ ?_
          · rw [okT_eq, decide_eq_true_iff, hN]
            constructor
            · intro ha
              refine ⟨h4, fun g hg => ?_⟩
              obtain ⟨i, hi, rfl⟩ := List.getElem_of_mem hg
              have := ha i hi
              rw [hob] at this
              simp only [hpg i hi] at this
              exact (okB_iff _).1 this
            · intro ha i hi
              rw [hob]
              simp only [hpg i hi]
              exact (okB_iff _).2 (ha.2 _ (List.getElem_mem hi))
          · intro ho
            rw [okT_eq] at ho
            rw [textT_eq, if_pos rfl]
            congr 1
            unfold kidsT
            rw [if_neg (fun hh => h0 (List.map_eq_nil_iff.1 hh)), List.length_map, hN]
            congr 2
            refine joinN_congr _ fun i hi => ?_
            rw [hLd]
            simp only [hpg i hi]
            rw [if_pos ((okB_iff _).2 (ho.2 _ (List.getElem_mem hi))), List.getD, List.getElem?_map, List.getElem?_eq_getElem hi]; rfl
      · have hlt : layoutT (.mk k l s f e ee kids) = l := by rw [layoutT_eq, if_neg (fun h => h7 h.1)]
        have hfl : (flatT dg k l f e ee).length ≤ 70000000000000 := by
          rw [textT_eq, if_neg h7, List.length_append] at htl
          have : 1000000 * 2000 * wT (.mk k l s f e ee kids) ≤ 1000000 * 2000 * 2000 := Nat.mul_le_mul_left _ hV
          omega
        have hbody : ∀ w', Below w.heap.size w w' → Calls Tryz.prog 12 #[.agg cs.toArray, .int .i64 (stride (layoutT (.mk k l s f e ee kids))), .int .i64 dg, .bool true] w' fun en w'' => BodyOut (flatT dg k l f e ee) true w' en w'' := by
          intro w' hb
          rw [hlt]
          exact bodyS k l s f e ee kids h7 hX hL hS w' w'.heap.size cs (ARep.below (hb.mono hB) (by have := hb.size; omega) _ cs h) (Nat.le_refl _) ((hT.below hb).mono hb.size) dg d0 d1 hfl
        refine (writeAny k l s f e ee kids hL hk.1 hk.2.1 w B cs h hB dg _ true hfl h4 hbody).mono fun en w' hs => hs.cong ?_ ?_
        · rw [okT_eq]
          exact ⟨fun _ => ⟨h4, fun g hg => by rw [(hk.2.2.1 h7).2] at hg; simp at hg⟩, fun _ => rfl⟩
        · intro _
          rw [textT_eq, if_neg h7]
    · refine (specWBig k l s f e ee kids hL hk.1 hk.2.1 _ rfl (by omega) w B cs h hB dg).mono fun en w' hs => ⟨fun ho => ?_, fun _ => hs⟩
      rw [okT_eq] at ho
      exact absurd ho.1 h4
end Go.Proofs.YtlmilelopajdiaaGreatDoor
