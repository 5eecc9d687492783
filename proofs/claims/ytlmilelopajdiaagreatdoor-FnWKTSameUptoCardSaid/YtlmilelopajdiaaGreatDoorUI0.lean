/-
  What an argument reads as: a geometry.
-/
import Derived.Test.YtlmilelopajdiaaGreatDoorUH7
import Derived.ChangeArms
import Derived.OpenShut
import Derived.Test.YtlmilelopajdiaaGreatDoorRows
namespace Go.Proofs.YtlmilelopajdiaaGreatDoor
open Go.RowKit

section
variable {H : Type} {enc : TypeId × Value → H} {w : World}

theorem cellsOf27 : Tryz.prog.cellsOf 27 = 7 := by kernel_rfl
theorem cellsOf3 : Tryz.prog.cellsOf 3 = 1 := by kernel_rfl
theorem cellsOf32 : Tryz.prog.cellsOf 32 = 1 := by kernel_rfl
theorem cellsOf23 : Tryz.prog.cellsOf 23 = 1 := by kernel_rfl
theorem cellsOf22 : Tryz.prog.cellsOf 22 = 1 := by kernel_rfl
theorem cellsOf24 : Tryz.prog.cellsOf 24 = 1 := by kernel_rfl
theorem cellsOf25 : Tryz.prog.cellsOf 25 = 1 := by kernel_rfl
theorem bulk_mem {d : DataW H} {L : List (DataW H)} (h : d ∈ L) : Rows.uptoBulk d ≤ Rows.uptoBulkAll L := by
  induction L with
  | nil => simp at h
  | cons a t ih =>
    unfold Rows.uptoBulkAll
    rcases List.mem_cons.1 h with rfl | h
    · omega
    · have := ih h; omega
theorem bulk_pos (d : DataW H) : 1 ≤ Rows.uptoBulk d := by
  cases d with
  | lit l => cases l <;> unfold Rows.uptoBulk <;> omega
  | nil => unfold Rows.uptoBulk; omega
  | ptr d => unfold Rows.uptoBulk; omega
  | slice a b => unfold Rows.uptoBulk; omega
  | agg a => unfold Rows.uptoBulk; omega
  | iface a b => unfold Rows.uptoBulk; omega
  | map a => unfold Rows.uptoBulk; omega
  | held a => unfold Rows.uptoBulk; omega
theorem bulk_len (L : List (DataW H)) : L.length ≤ Rows.uptoBulkAll L := by
  induction L with
  | nil => simp [Rows.uptoBulkAll]
  | cons a t ih =>
    unfold Rows.uptoBulkAll
    have := bulk_pos a
    rw [List.length_cons]; omega
/-- A slice whose elements are of k cells each. -/
theorem read_slice {t e : TypeId} {k m : Nat} {cs : List Value} {x : DataW H × List MemPlace} (ht : Tryz.prog.underlying t = some (.slice e)) (hk : Tryz.prog.cellsOf e = k) (h : DataW.trod enc Tryz.prog w 0 (fun _ => true) true m t cs = some x) :
    (cs = [.slice none 0 0] ∧ x.1 = .nil) ∨ ∃ (a : Addr) (cap : Nat) (elems : List (DataW H)) (rest : List (DataW H)) (css : List (List Value)) (n : Nat), m = n + 1 ∧ cs = [.slice (some a) elems.length cap] ∧ x.1 = .slice elems rest ∧ elems.length ≤ cap ∧ cap ≤ 9223372036854775807 ∧ css.length = elems.length ∧
      ∀ (i : Nat) (c : List Value) (d : DataW H), css[i]? = some c → elems[i]? = some d → (∃ p, DataW.trod enc Tryz.prog w 0 (fun _ => true) true n e c = some (d, p)) ∧ c.length = k ∧ ∀ j, j < k → w.cell? ((a.add (i * k)).add j) = c[j]? := by
  rcases DataW.trod_slice ht h with ⟨h1, h2⟩ | ⟨a, len, cap, elems, rest, n, h1, h2, h3, h4, h5, h6, h7, h8, _⟩
  · exact Or.inl ⟨h1, by rw [h2]⟩
  · refine Or.inr ⟨a, cap, elems.map (·.1), rest.map (·.1), (List.range len).map fun i => (w.cells? 0 (a.add (i * k)) k).getD [], n, h1, by rw [List.length_map, h7]; exact h2, by rw [h3], by rw [List.length_map]; omega, by unfold maxLen at h6; omega, by rw [List.length_map, List.length_map, List.length_range, h7], fun i c d hc hd => ?_⟩
    have hi : i < len := by
      have := (List.getElem?_eq_some_iff.1 hd).1
      rw [List.length_map] at this; omega
    have h9 := h8 i hi
    rw [hk] at h9
    rw [List.getElem?_map, List.getElem?_range hi] at hc
    rw [List.getElem?_map] at hd
    obtain ⟨y, hy⟩ : ∃ y, elems[i]? = some y := ⟨_, List.getElem?_eq_getElem (by omega)⟩
    rw [hy] at hd h9
    simp only [Option.map_some, Option.some.injEq] at hc hd
    cases hcell : w.cells? 0 (a.add (i * k)) k with
    | none => rw [hcell] at h9; simp at h9
    | some cs' =>
      rw [hcell] at h9 hc
      simp only [Option.getD_some, Option.bind_some] at h9 hc
      subst hc
      have h10 := World.cells?_some hcell
      refine ⟨⟨y.2, ?_⟩, h10.2.1, h10.2.2⟩
      rw [h9, ← hd]
theorem add_add (b o : Nat) (i j : Nat) : ((⟨b, o, none⟩ : Addr).add i).add j = ⟨b, o + i + j, none⟩ := by
  rw [Go.WideShapes.add_plain, Go.WideShapes.add_plain]
theorem spot_none {a : Addr} {v : Value} (h : w.cell? ((a.add 0).add 0) = some v) : ∃ b o, a = ⟨b, o, none⟩ ∧ b < w.heap.size := by
  obtain ⟨b, off, spot⟩ := a
  have hspot : spot = none := by simpa [Addr.add] using World.cell?_spot h
  subst hspot
  rw [add_add] at h
  exact ⟨b, off, rfl, block_lt_of_cell h⟩
theorem ex_list {Y : Type} (n : Nat) (R : Nat → Y → Prop) (h : ∀ i, i < n → ∃ y, R i y) : ∃ ys : List Y, ys.length = n ∧ ∀ i y, ys[i]? = some y → R i y := by
  induction n with
  | zero => exact ⟨[], rfl, fun i y h => by simp at h⟩
  | succ n ih =>
    obtain ⟨ys, h1, h2⟩ := ih fun i hi => h i (by omega)
    obtain ⟨y, hy⟩ := h n (by omega)
    refine ⟨ys ++ [y], by simp [h1], fun i z hz => ?_⟩
    by_cases hi : i < n
    · rw [List.getElem?_append_left (by omega)] at hz; exact h2 i z hz
    · have hin : i = n := by
        have := (List.getElem?_eq_some_iff.1 hz).1
        rw [List.length_append] at this
        simp at this; omega
      subst hin
      rw [List.getElem?_append_right (by omega), show i - ys.length = 0 by omega] at hz
      simp at hz
      subst hz
      exact hy
theorem sum_bulk {Y : Type} (G : Y → Nat) : ∀ (ys : List Y) (L : List (DataW H)), ys.length = L.length → (∀ (i : Nat) (y : Y) (d : DataW H), ys[i]? = some y → L[i]? = some d → G y ≤ Rows.uptoBulk d) → (ys.map G).sum ≤ Rows.uptoBulkAll L := by
  intro ys
  induction ys with
  | nil => intro L _ _; simp
  | cons y t ih =>
    intro L hl h
    cases L with
    | nil => simp at hl
    | cons d r =>
      have h0 := h 0 y d rfl rfl
      have h1 := ih r (by simpa using hl) fun i y d hy hd => h (i + 1) y d (by simpa using hy) (by simpa using hd)
      unfold Rows.uptoBulkAll
      rw [List.map_cons, List.sum_cons]
      omega
/-- A slice of values of one cell. -/
theorem read_row {Y : Type} (F : Y → Value) (Q : Y → Nat → DataW H → Prop) {t e : TypeId} {m : Nat} {v : Value} {x : DataW H × List MemPlace} (ht : Tryz.prog.underlying t = some (.slice e)) (hk : Tryz.prog.cellsOf e = 1)
    (h : DataW.trod enc Tryz.prog w 0 (fun _ => true) true m t [v] = some x) (hb : Rows.uptoBulk x.1 ≤ 1048576)
    (hel : ∀ n u d p, n < m → Rows.uptoBulk d ≤ 1048576 → DataW.trod enc Tryz.prog w 0 (fun _ => true) true n e [u] = some (d, p) → ∃ y, u = F y ∧ Q y n d) :
    ∃ (ys : List Y) (L : List (DataW H)), Row w w.heap.size v (ys.map F) ∧ ys.length = L.length ∧ (∀ (i : Nat) (y : Y) (d : DataW H), ys[i]? = some y → L[i]? = some d → ∃ n, Q y n d) ∧ Rows.uptoBulkAll L + 1 ≤ Rows.uptoBulk x.1 := by
  rcases read_slice ht hk h with ⟨h1, h2⟩ | ⟨a, cap, elems, rest, css, n, h1, h2, h3, h4, h5, h6, h7⟩
  · injection h1 with h1 _
    refine ⟨[], [], ⟨none, 0, h1, Nat.le_refl _, ⟨by simp, Nat.zero_le _⟩, fun _ => ⟨rfl, rfl⟩, fun h => absurd rfl h⟩, rfl, fun i y d h => by simp at h, ?_⟩
    rw [h2]
    simp [Rows.uptoBulkAll, Rows.uptoBulk]
  · injection h2 with h2 _
    rw [h3] at hb ⊢
    unfold Rows.uptoBulk at hb ⊢
    have hl := bulk_len elems
    obtain ⟨ys, hy1, hy2⟩ := ex_list (Y := Y) elems.length (fun i y => w.cell? ((a.add (i * 1)).add 0) = some (F y) ∧ ∀ d, elems[i]? = some d → ∃ n, Q y n d) (fun i hi => by
      obtain ⟨d, hd⟩ : ∃ d, elems[i]? = some d := ⟨_, List.getElem?_eq_getElem hi⟩
      obtain ⟨c, hc⟩ : ∃ c, css[i]? = some c := ⟨_, List.getElem?_eq_getElem (by omega)⟩
      obtain ⟨⟨p, hp⟩, hcl, hcell⟩ := h7 i c d hc hd
      obtain ⟨u, rfl⟩ : ∃ u, c = [u] := by
        match c, hcl with
        | [u], _ => exact ⟨u, rfl⟩
      have hbd : Rows.uptoBulk d ≤ 1048576 := by
        have := bulk_mem (List.mem_of_getElem? hd)
        omega
      obtain ⟨y, hy, hq⟩ := hel n u d p (by omega) hbd hp
      refine ⟨y, ?_, fun d' hd' => ?_⟩
      · have := hcell 0 (by decide)
        rw [this, hy]; rfl
      · rw [hd] at hd'
        injection hd' with hd'
        exact ⟨n, hd' ▸ hq⟩)
    refine ⟨ys, elems, ⟨some a, cap, by rw [List.length_map, hy1]; exact h2, by rw [List.length_map, hy1]; exact h4, ⟨by rw [List.length_map, hy1]; omega, h5⟩, (fun h => by cases h), fun hne => ?_⟩, hy1, fun i y d hy hd => (hy2 i y hy).2 d hd, by omega⟩
    obtain ⟨y0, hy0⟩ : ∃ y, ys[0]? = some y := ⟨_, List.getElem?_eq_getElem (by
      rcases Nat.eq_zero_or_pos ys.length with h | h
      · exact absurd (by rw [List.length_eq_zero_iff.1 h]; rfl) hne
      · exact h)⟩
    obtain ⟨b, o, rfl, hbs⟩ := spot_none (show w.cell? ((a.add 0).add 0) = some (F y0) from (hy2 0 y0 hy0).1)
    refine ⟨b, o, rfl, hbs, fun j u hu => ?_⟩
    rw [List.getElem?_map] at hu
    cases hyj : ys[j]? with
    | none => rw [hyj] at hu; cases hu
    | some y =>
      rw [hyj] at hu
      simp only [Option.map_some, Option.some.injEq] at hu
      have := (hy2 j y hyj).1
      rw [add_add] at this
      rw [← hu, ← this, Nat.mul_one, Nat.add_zero]
set_option maxRecDepth 100000 in
theorem read_float {n : Nat} {u : Value} {d : DataW H} {p : List MemPlace} (h : DataW.trod enc Tryz.prog w 0 (fun _ => true) true n 32 [u] = some (d, p)) : ∃ y, u = fv y ∧ y < 18446744073709551616 := by
  cases n with
  | zero => simp [DataW.trod] at h
  | succ n =>
    unfold DataW.trod at h
    rw [Tryz.underlying32] at h
    cases u with
    | float k b =>
      by_cases hc : k = .f64 ∧ (Lit.float .f64 b).wf = true
      · obtain ⟨rfl, hw⟩ := hc
        exact ⟨b, rfl, of_decide_eq_true hw⟩
      · simp only [if_neg hc] at h
        cases h
    | _ => cases h
theorem read_int {n : Nat} {u : Value} {d : DataW H} {p : List MemPlace} (h : DataW.trod enc Tryz.prog w 0 (fun _ => true) true n 3 [u] = some (d, p)) : ∃ y, u = iv y ∧ -9223372036854775808 ≤ y ∧ y ≤ 9223372036854775807 := by
  obtain ⟨y, h1, h2, h3⟩ := DataW.trod_int Tryz.underlying3 h
  injection h1 with h1 _
  have := bounds_i64 h3
  exact ⟨y, h1, this.1, this.2⟩
theorem read_floats {m : Nat} {v : Value} {x : DataW H × List MemPlace} (h : DataW.trod enc Tryz.prog w 0 (fun _ => true) true m 22 [v] = some x) (hb : Rows.uptoBulk x.1 ≤ 1048576) : ∃ f : List Nat, Row w w.heap.size v (f.map fv) ∧ (∀ y ∈ f, y < 18446744073709551616) ∧ f.length + 1 ≤ Rows.uptoBulk x.1 := by
  obtain ⟨ys, L, h1, h2, h3, h4⟩ := read_row (Y := Nat) fv (fun y _ _ => y < 18446744073709551616) Tryz.underlying22 cellsOf32 h hb (fun n u d p _ _ hd => read_float hd)
  refine ⟨ys, h1, fun y hy => ?_, by have := bulk_len L; omega⟩
  obtain ⟨i, hi, rfl⟩ := List.getElem_of_mem hy
  obtain ⟨_, hq⟩ := h3 i _ _ (List.getElem?_eq_getElem hi) (List.getElem?_eq_getElem (by omega))
  exact hq
theorem read_ints {m : Nat} {v : Value} {x : DataW H × List MemPlace} (h : DataW.trod enc Tryz.prog w 0 (fun _ => true) true m 23 [v] = some x) (hb : Rows.uptoBulk x.1 ≤ 1048576) : ∃ e : List Int, Row w w.heap.size v (e.map iv) ∧ (∀ y ∈ e, y ≤ 9223372036854775807) ∧ e.length + 1 ≤ Rows.uptoBulk x.1 := by
  obtain ⟨ys, L, h1, h2, h3, h4⟩ := read_row (Y := Int) iv (fun y _ _ => y ≤ 9223372036854775807) Tryz.underlying23 cellsOf3 h hb (fun n u d p _ _ hd => by
    obtain ⟨y, h1, _, h2⟩ := read_int hd
    exact ⟨y, h1, h2⟩)
  refine ⟨ys, h1, fun y hy => ?_, by have := bulk_len L; omega⟩
  obtain ⟨i, hi, rfl⟩ := List.getElem_of_mem hy
  obtain ⟨_, hq⟩ := h3 i _ _ (List.getElem?_eq_getElem hi) (List.getElem?_eq_getElem (by omega))
  exact hq
theorem read_endss {m : Nat} {v : Value} {x : DataW H × List MemPlace} (h : DataW.trod enc Tryz.prog w 0 (fun _ => true) true m 24 [v] = some x) (hb : Rows.uptoBulk x.1 ≤ 1048576) :
    ∃ (vs : List Value) (ee : List (List Int)), Row w w.heap.size v vs ∧ vs.length = ee.length ∧ (∀ (i : Nat) (u : Value) (es : List Int), vs[i]? = some u → ee[i]? = some es → Row w w.heap.size u (es.map iv)) ∧ (∀ es ∈ ee, ∀ y ∈ es, y ≤ 9223372036854775807) ∧ (ee.map fun es => 1 + es.length).sum + 1 ≤ Rows.uptoBulk x.1 := by
  obtain ⟨ys, L, h1, h2, h3, h4⟩ := read_row (Y := Value × List Int) (fun y => y.1) (fun y _ d => Row w w.heap.size y.1 (y.2.map iv) ∧ (∀ z ∈ y.2, z ≤ 9223372036854775807) ∧ y.2.length + 1 ≤ Rows.uptoBulk d) Tryz.underlying24 cellsOf23 h hb (fun n u d p _ hbd hd => by
    obtain ⟨es, e1, e2, e3⟩ := read_ints hd hbd
    exact ⟨(u, es), rfl, e1, e2, e3⟩)
  refine ⟨ys.map (·.1), ys.map (·.2), h1, by simp, fun i u es hu hes => ?_, fun es hes => ?_, ?_⟩
  · rw [List.getElem?_map] at hu hes
    cases hy : ys[i]? with
    | none => rw [hy] at hu; cases hu
    | some y =>
      rw [hy] at hu hes
      simp only [Option.map_some, Option.some.injEq] at hu hes
      have hi := (List.getElem?_eq_some_iff.1 hy).1
      obtain ⟨_, hq⟩ := h3 i y _ hy (List.getElem?_eq_getElem (by omega))
      rw [← hu, ← hes]; exact hq.1
  · obtain ⟨y, hy, rfl⟩ := List.mem_map.1 hes
    obtain ⟨i, hi, rfl⟩ := List.getElem_of_mem hy
    obtain ⟨_, hq⟩ := h3 i _ _ (List.getElem?_eq_getElem hi) (List.getElem?_eq_getElem (by omega))
    exact hq.2.1
  · have := sum_bulk (fun y : Value × List Int => 1 + y.2.length) ys L h2 (fun i y d hy hd => by obtain ⟨_, hq⟩ := h3 i y d hy hd; have := hq.2.2; omega)
    rw [List.map_map]
    have he : ((fun es : List Int => 1 + es.length) ∘ fun x : Value × List Int => x.2) = fun y => 1 + y.2.length := rfl
    rw [he]; omega
/-- Numbers of 64 bits, all through. -/
def Flo : Gm → Prop
  | .mk _ _ _ f _ _ kids => (∀ x ∈ f, x < 18446744073709551616) ∧ ∀ g (_h : g ∈ kids), Flo g
termination_by g => SizeOf.sizeOf g
decreasing_by
  have := List.sizeOf_lt_of_mem _h
  simp only [Gm.mk.sizeOf_spec]
  omega
theorem flo_eq (k l s : Int) (f : List Nat) (e : List Int) (ee : List (List Int)) (kids : List Gm) : Flo (.mk k l s f e ee kids) ↔ (∀ x ∈ f, x < 18446744073709551616) ∧ ∀ g, g ∈ kids → Flo g := by
  rw [Flo]
theorem small_of : ∀ g, Flo g → wT g ≤ 1000000 → Small g := by
  intro g
  induction g using Gm.ind with
  | h k l s f e ee kids ih =>
    intro hf hw
    rw [flo_eq] at hf
    have hw' := hw
    rw [wT_eq] at hw
    rw [small_eq]
    have hee : ee.length ≤ (ee.map fun es => 1 + es.length).sum := by
      clear hw hw' ih
      induction ee with
      | nil => simp
      | cons a t iht => rw [List.map_cons, List.sum_cons, List.length_cons]; omega
    have hk : kids.length ≤ (kids.map wT).sum := by
      clear hw hw' ih hf
      induction kids with
      | nil => simp
      | cons a t iht =>
        have : 1 ≤ wT a := by cases a; rw [wT_eq]; omega
        rw [List.map_cons, List.sum_cons, List.length_cons]; omega
    refine ⟨by omega, by omega, by omega, fun es hes => ?_, by omega, hf.1, fun g hg => ih g hg (hf.2 g hg) (by have := wT_kid (k := k) (l := l) (s := s) (f := f) (e := e) (ee := ee) hg; omega)⟩
    have := mem_sum _ _ (List.mem_map_of_mem (f := fun es : List Int => 1 + es.length) hes)
    omega
set_option maxRecDepth 100000 in
/-- An argument reads as a geometry. -/
theorem read_geom : ∀ (m : Nat) (cs : List Value) (x : DataW H × List MemPlace), DataW.trod enc Tryz.prog w 0 (fun _ => true) true m 27 cs = some x → Rows.uptoBulk x.1 ≤ 1048576 → ∃ g, ARep w w.heap.size g cs ∧ WfI g ∧ Flo g ∧ wT g ≤ Rows.uptoBulk x.1 := by
  intro m
  induction m using Nat.strongRecOn with
  | ind m ih =>
    intro cs x h hb
    obtain ⟨xs, n, hm, hx, hcl, hxl, hf⟩ := DataW.trod_struct Tryz.underlying27 h
    rw [cellsOf27] at hcl
    obtain ⟨c0, c1, c2, c3, c4, c5, c6, rfl⟩ : ∃ c0 c1 c2 c3 c4 c5 c6, cs = [c0, c1, c2, c3, c4, c5, c6] := by
      match cs, hcl with
      | [c0, c1, c2, c3, c4, c5, c6], _ => exact ⟨_, _, _, _, _, _, _, rfl⟩
    obtain ⟨x0, x1, x2, x3, x4, x5, x6, rfl⟩ : ∃ x0 x1 x2 x3 x4 x5 x6, xs = [x0, x1, x2, x3, x4, x5, x6] := by
      match xs, hxl with
      | [x0, x1, x2, x3, x4, x5, x6], _ => exact ⟨_, _, _, _, _, _, _, rfl⟩
    have f0 := hf 0 _ rfl
    have f1 := hf 1 _ rfl
    have f2 := hf 2 _ rfl
    have f3 := hf 3 _ rfl
    have f4 := hf 4 _ rfl
    have f5 := hf 5 _ rfl
    have f6 := hf 6 _ rfl
    simp only [List.getElem?_cons_zero, List.getElem?_cons_succ] at f0 f1 f2 f3 f4 f5 f6
    rw [hx] at hb ⊢
    simp only [List.map_cons, List.map_nil] at hb ⊢
    unfold Rows.uptoBulk at hb ⊢
    simp only [Rows.uptoBulkAll] at hb ⊢
    have p0 := bulk_pos x0.1
    have p1 := bulk_pos x1.1
    have p2 := bulk_pos x2.1
    obtain ⟨k, hk, _⟩ := read_int (d := x0.1) (p := x0.2) f0
    obtain ⟨l, hl, _⟩ := read_int (d := x1.1) (p := x1.2) f1
    obtain ⟨s, hs, _⟩ := read_int (d := x2.1) (p := x2.2) f2
    obtain ⟨f, g1, g2, g3⟩ := read_floats f3 (by omega)
    obtain ⟨e, g4, g5, g6⟩ := read_ints f4 (by omega)
    obtain ⟨vs, ee, g7, g8, g9, g10, g11⟩ := read_endss f5 (by omega)
    have hkids : ∃ (css : List (List Value)) (kids : List Gm), RowK w w.heap.size c6 css ∧ css.length = kids.length ∧ (∀ (i : Nat) c g, kids[i]? = some g → css[i]? = some c → ARep w w.heap.size g c) ∧ (∀ g ∈ kids, WfI g ∧ Flo g) ∧ (kids.map wT).sum + 1 ≤ Rows.uptoBulk x6.1 := by
      rcases read_slice Tryz.underlying25 cellsOf27 f6 with ⟨h1, h2⟩ | ⟨a, cap, elems, rest, css, n', h1, h2, h3, h4, h5, h6, h7⟩
      · injection h1 with h1 _
        exact ⟨[], [], ⟨none, 0, h1, Nat.le_refl _, ⟨by simp, Nat.zero_le _⟩, fun _ => ⟨rfl, rfl⟩, fun h => absurd rfl h⟩, rfl, fun i c g h => by simp at h, fun g hg => by simp at hg, bulk_pos _⟩
      · injection h2 with h2 _
        have hb6 : Rows.uptoBulk x6.1 ≤ 1048576 := by omega
        rw [h3] at hb6 ⊢
        unfold Rows.uptoBulk at hb6 ⊢
        have hl6 := bulk_len elems
        obtain ⟨kids, k1, k2⟩ := ex_list (Y := Gm) elems.length (fun i g => ∀ c d, css[i]? = some c → elems[i]? = some d → ARep w w.heap.size g c ∧ WfI g ∧ Flo g ∧ wT g ≤ Rows.uptoBulk d) (fun i hi => by
          obtain ⟨d, hd⟩ : ∃ d, elems[i]? = some d := ⟨_, List.getElem?_eq_getElem hi⟩
          obtain ⟨c, hc⟩ : ∃ c, css[i]? = some c := ⟨_, List.getElem?_eq_getElem (by omega)⟩
          obtain ⟨⟨p, hp⟩, _, _⟩ := h7 i c d hc hd
          have hbd : Rows.uptoBulk d ≤ 1048576 := by
            have := bulk_mem (List.mem_of_getElem? hd)
            omega
          obtain ⟨g, hg⟩ := ih n' (by omega) c (d, p) hp hbd
          refine ⟨g, fun c' d' hc' hd' => ?_⟩
          rw [hc] at hc'
          rw [hd] at hd'
          injection hc' with hc'
          injection hd' with hd'
          rw [← hc', ← hd']
          exact hg)
        have hat : ∀ (i : Nat) g, kids[i]? = some g → ∃ c d, css[i]? = some c ∧ elems[i]? = some d ∧ ARep w w.heap.size g c ∧ WfI g ∧ Flo g ∧ wT g ≤ Rows.uptoBulk d := fun i g hg => by
          have hi := (List.getElem?_eq_some_iff.1 hg).1
          obtain ⟨d, hd⟩ : ∃ d, elems[i]? = some d := ⟨_, List.getElem?_eq_getElem (by omega)⟩
          obtain ⟨c, hc⟩ : ∃ c, css[i]? = some c := ⟨_, List.getElem?_eq_getElem (by omega)⟩
          exact ⟨c, d, hc, hd, k2 i g hg c d hc hd⟩
        refine ⟨css, kids, ⟨some a, cap, by rw [h6]; exact h2, by rw [h6]; exact h4, ⟨by omega, h5⟩, (fun h => by cases h), fun hne => ?_⟩, by omega, fun i c g hg hc => ?_, fun g hg => ?_, ?_⟩
        · obtain ⟨c0', hc0⟩ : ∃ c, css[0]? = some c := ⟨_, List.getElem?_eq_getElem (List.length_pos_iff.2 hne)⟩
          obtain ⟨d0, hd0⟩ : ∃ d, elems[0]? = some d := ⟨_, List.getElem?_eq_getElem (by have := List.length_pos_iff.2 hne; omega)⟩
          obtain ⟨_, hlen0, hcell0⟩ := h7 0 c0' d0 hc0 hd0
          obtain ⟨u0, hu0⟩ : ∃ u, c0'[0]? = some u := ⟨_, List.getElem?_eq_getElem (by omega)⟩
          have h00 := hcell0 0 (by decide)
          rw [hu0] at h00
          obtain ⟨b, o, rfl, hbs⟩ := spot_none (show w.cell? ((a.add 0).add 0) = some u0 from h00)
          refine ⟨b, o, rfl, hbs, fun j c hc i u hu => ?_⟩
          obtain ⟨d, hd⟩ : ∃ d, elems[j]? = some d := ⟨_, List.getElem?_eq_getElem (by have := (List.getElem?_eq_some_iff.1 hc).1; omega)⟩
          obtain ⟨_, hlen, hcell⟩ := h7 j c d hc hd
          have := hcell i (by have := (List.getElem?_eq_some_iff.1 hu).1; omega)
          rw [add_add, hu] at this
          exact this
        · obtain ⟨c', d, hc', _, h8, _⟩ := hat i g hg
          rw [hc] at hc'
          injection hc' with hc'
          rw [hc']
          exact h8
        · obtain ⟨i, hi, rfl⟩ := List.getElem_of_mem hg
          obtain ⟨_, _, _, _, _, h9, h10, _⟩ := hat i _ (List.getElem?_eq_getElem hi)
          exact ⟨h9, h10⟩
        · have := sum_bulk wT kids elems k1 (fun i g d hg hd => by
            obtain ⟨_, d', _, hd', _, _, _, h11⟩ := hat i g hg
            rw [hd] at hd'
            injection hd' with hd'
            rw [hd']
            exact h11)
          omega
    obtain ⟨css, kids, j1, j2, j3, j4, j5⟩ := hkids
    refine ⟨.mk k l s f e ee kids, ?_, ?_, ?_, ?_⟩
    · rw [arep_eq]
      exact ⟨c3, c4, c5, c6, by rw [hk, hl, hs]; rfl, g1, g4, ⟨vs, g7, g8, g9⟩, css, j1, j2, j3⟩
    · rw [wfi_eq]; exact ⟨g5, g10, fun g hg => (j4 g hg).1⟩
    · rw [flo_eq]; exact ⟨g2, fun g hg => (j4 g hg).2⟩
    · rw [wT_eq]
      omega
end
end Go.Proofs.YtlmilelopajdiaaGreatDoor
