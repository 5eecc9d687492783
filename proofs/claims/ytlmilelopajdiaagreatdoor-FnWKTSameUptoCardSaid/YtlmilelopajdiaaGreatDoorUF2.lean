/-
  Slices that came in; what impl.floats and impl.ints make of them.
-/
import Derived.Test.YtlmilelopajdiaaGreatDoorUE4
import Derived.Laws.AppendOwnNone
namespace Go.Proofs.YtlmilelopajdiaaGreatDoor
open Go.RowKit

/-- Slice v holds the values, below block B. -/
def Row (w : World) (B : Nat) (v : Value) (vals : List Value) : Prop :=
  ∃ a cap, v = .slice a vals.length cap ∧ vals.length ≤ cap ∧ (vals.length ≤ 1000000000 ∧ cap ≤ 9223372036854775807) ∧ (a = none → vals = [] ∧ cap = 0) ∧ (vals ≠ [] → ∃ b o, a = some ⟨b, o, none⟩ ∧ b < B ∧ ∀ j u, vals[j]? = some u → w.cell? ⟨b, o + j, none⟩ = some u)
theorem Row.below {w w' : World} {B : Nat} {v : Value} {vals : List Value} (h : Row w B v vals) (hb : Below B w w') : Row w' B v vals := by
  obtain ⟨a, cap, h1, h2, h3, h4, h5⟩ := h
  refine ⟨a, cap, h1, h2, h3, h4, fun hn => ?_⟩
  obtain ⟨b, o, e1, e2, e3⟩ := h5 hn
  exact ⟨b, o, e1, e2, fun j u hu => by rw [hb.cell e2]; exact e3 j u hu⟩
theorem Row.mono {w : World} {B B' : Nat} {v : Value} {vals : List Value} (h : Row w B v vals) (hb : B ≤ B') : Row w B' v vals := by
  obtain ⟨a, cap, h1, h2, h3, h4, h5⟩ := h
  refine ⟨a, cap, h1, h2, h3, h4, fun hn => ?_⟩
  obtain ⟨b, o, e1, e2, e3⟩ := h5 hn
  exact ⟨b, o, e1, by omega, e3⟩
/-- Slice v, in a block of S, holds the values. -/
def OwnS (w : World) (S : Nat → Prop) (v : Value) (vals : List Value) : Prop :=
  (vals = [] ∧ v = .slice none 0 0) ∨ ∃ b cap, v = .slice (some ⟨b, 0, none⟩) vals.length cap ∧ S b ∧ vals.length ≤ cap ∧ cap ≤ 9223372036854775807 ∧ ∀ j u, vals[j]? = some u → w.cell? ⟨b, j, none⟩ = some u
theorem OwnS.frame {w w' : World} {S S' : Nat → Prop} {v : Value} {vals : List Value} (h : OwnS w S v vals) (hS : ∀ b, S b → S' b) (hf : ∀ b, S b → w'.heap[b]? = w.heap[b]?) : OwnS w' S' v vals := by
  rcases h with h | ⟨b, cap, h1, h2, h3, h4, h5⟩
  · exact Or.inl h
  · refine Or.inr ⟨b, cap, h1, hS b h2, h3, h4, fun j u hu => ?_⟩
    have := h5 j u hu
    unfold World.cell? at this ⊢
    rw [hf b h2]; exact this
/-- The blocks between two worlds. -/
abbrev Betw (w w' : World) : Nat → Prop := fun b => w.heap.size ≤ b ∧ b < w'.heap.size
theorem ownS_of {w w' : World} {e : TypeId} {v : Value} {n : Nat} {vals : List Value} (h : w'.ownsRow w.heap.size e 1 v n vals) (hn : n = 0 → v = .slice none 0 0) : OwnS w' (Betw w w') v vals := by
  obtain ⟨hl, h | ⟨g, cap, cur, h1, h2, h3, h4, h5, h6, h7⟩⟩ := h
  · exact Or.inl ⟨List.length_eq_zero_iff.1 (by omega), h.1⟩
  · have hnl : n = vals.length := by omega
    subst hnl
    refine Or.inr ⟨g, cap, h1, ⟨h2, lt_of_block h3⟩, h4, by unfold maxLen at h5; omega, fun j u hu => ?_⟩
    rw [Lib.cell_of_heap h3]
    rw [← h7, List.getElem?_take] at hu
    split at hu
    · rw [← hu]; simp
    · cases hu
theorem info32 : (Tryz.prog.info? 32).map (fun i => (i.zero, i.size, i.bytes)) = some (some (.float .f64 0), 1, 8) := by kernel_rfl
theorem info3 : (Tryz.prog.info? 3).map (fun i => (i.zero, i.size, i.bytes)) = some (some (.int .i64 0), 1, 8) := by kernel_rfl
theorem row_none (w : World) (b : Nat) (e : TypeId) : w.ownsRow b e 1 (.slice none 0 0) 0 [] := ⟨rfl, Or.inl ⟨rfl, rfl⟩⟩
theorem below_new {w w' : World} (h : w.grownBy w' none) : Below w.heap.size w w' :=
  (Below.refl w.heap.size w).grown h (Nat.le_refl _) (fun k hk => by cases hk)

set_option maxRecDepth 100000 in
set_option maxHeartbeats 1000000 in
theorem floatsCopy (w : World) (B : Nat) (v : Value) (vals : List Value) (h : Row w B v vals) (h1 : ∀ u ∈ vals, u.oneCell' = true) : Calls Tryz.prog 27 #[v] w fun e w' => ∃ v', e = .returned v' ∧ OwnS w' (Betw w w') v' vals ∧ Below w.heap.size w w' := by
  obtain ⟨a, cap, rfl, hc, hc2, ha, hcell⟩ := h
  obtain ⟨i0, hi, hz0, hz1, hz2⟩ := info_parts info32
  have hr := row_none w w.heap.size 32
  cases a with
  | none =>
    obtain ⟨rfl, rfl⟩ := ha rfl
    clear ha hcell
    go_enter Tryz.func27, Tryz.ntmps27
    go_wp2_with (at_builtin; refine wpList_append_own_none rfl _ _ 22 rfl w.heap.size 32 i0 1 Tryz.underlying22 hi (.slice none 0 0) 0 [] rfl hr rfl ?_)
    go_ret
    exact ⟨_, rfl, Or.inl ⟨rfl, rfl⟩, Below.refl _ _⟩
  | some ad =>
    have hnews : ∀ j u, vals[j]? = some u → w.cell? (ad.add j) = some u := by
      intro j u hu
      obtain ⟨b, o, e1, _, e3⟩ := hcell (by intro h; rw [h] at hu; simp at hu)
      injection e1 with e1
      rw [e1, Go.WideShapes.add_plain]
      exact e3 j u hu
    have HN := Lib.hid hnews
    have H1 := Lib.hid h1
    clear ha hcell hnews h1
    go_enter Tryz.func27, Tryz.ntmps27
    go_wp2_with (at_builtin; refine wpList_append_own _ rfl _ _ 22 rfl w.heap.size 32 i0 (.float .f64 0) 1 8 Tryz.underlying22 hi hz0 hz1 hz2 rfl (by decide) (.slice none 0 0) 0 [] rfl hr ad vals.length cap vals rfl (by simp) HN.out H1.out (by unfold maxLen; omega) (by omega) (Nat.le_refl _) ?_; intro v' w1 hown hgrow hnil)
    simp only [Nat.zero_add, List.nil_append] at hown
    go_ret
    exact ⟨_, rfl, ownS_of hown (fun h0 => hnil.2 (by simpa using h0)), below_new hgrow⟩

set_option maxRecDepth 100000 in
set_option maxHeartbeats 1000000 in
theorem intsCopy (w : World) (B : Nat) (v : Value) (vals : List Value) (h : Row w B v vals) (h1 : ∀ u ∈ vals, u.oneCell' = true) : Calls Tryz.prog 35 #[v] w fun e w' => ∃ v', e = .returned v' ∧ OwnS w' (Betw w w') v' vals ∧ Below w.heap.size w w' := by
  obtain ⟨a, cap, rfl, hc, hc2, ha, hcell⟩ := h
  obtain ⟨i0, hi, hz0, hz1, hz2⟩ := info_parts info3
  have hr := row_none w w.heap.size 3
  cases a with
  | none =>
    obtain ⟨rfl, rfl⟩ := ha rfl
    clear ha hcell
    go_enter Tryz.func35, Tryz.ntmps35
    go_wp2_with (at_builtin; refine wpList_append_own_none rfl _ _ 23 rfl w.heap.size 3 i0 1 Tryz.underlying23 hi (.slice none 0 0) 0 [] rfl hr rfl ?_)
    go_ret
    exact ⟨_, rfl, Or.inl ⟨rfl, rfl⟩, Below.refl _ _⟩
  | some ad =>
    have hnews : ∀ j u, vals[j]? = some u → w.cell? (ad.add j) = some u := by
      intro j u hu
      obtain ⟨b, o, e1, _, e3⟩ := hcell (by intro h; rw [h] at hu; simp at hu)
      injection e1 with e1
      rw [e1, Go.WideShapes.add_plain]
      exact e3 j u hu
    have HN := Lib.hid hnews
    have H1 := Lib.hid h1
    clear ha hcell hnews h1
    go_enter Tryz.func35, Tryz.ntmps35
    go_wp2_with (at_builtin; refine wpList_append_own _ rfl _ _ 23 rfl w.heap.size 3 i0 (.int .i64 0) 1 8 Tryz.underlying23 hi hz0 hz1 hz2 rfl (by decide) (.slice none 0 0) 0 [] rfl hr ad vals.length cap vals rfl (by simp) HN.out H1.out (by unfold maxLen; omega) (by omega) (Nat.le_refl _) ?_; intro v' w1 hown hgrow hnil)
    simp only [Nat.zero_add, List.nil_append] at hown
    go_ret
    exact ⟨_, rfl, ownS_of hown (fun h0 => hnil.2 (by simpa using h0)), below_new hgrow⟩
theorem grownBy_any {w w' : World} (h : w.grownBy w' none) (row : Option Nat) : w.grownBy w' row := ⟨h.os, h.tape, h.output, h.size, fun k hk _ => h.block k hk (by simp)⟩
theorem ownsRow_base {w : World} {b b' : Nat} {e : TypeId} {n : Nat} {v : Value} {xs : List Value} (h : w.ownsRow b e 1 v n xs) (hb : b' ≤ b) : w.ownsRow b' e 1 v n xs := by
  obtain ⟨h1, h2 | ⟨g, cap, cur, e1, e2, e3⟩⟩ := h
  · exact ⟨h1, Or.inl h2⟩
  · exact ⟨h1, Or.inr ⟨g, cap, cur, e1, by omega, e3⟩⟩
/-- One value more: it lies where the others lie, or in a new block. -/
theorem append_one (w : World) {ops : Array Oper} {rest : List Oper} {o : Oper} {a : Act} {Q : Exit → Act → World → Prop} (hgd : o.guard = none) (s x : Operand) (t : TypeId)
    (ho : o.op = .call { callee := .builtin .append, args := #[s, x], argTypes := #[t, t] })
    (base : Nat) (e : TypeId) (i : TypeInfo) (z : Value) (bytes : Nat) (ht : Tryz.prog.underlying t = some (.slice e)) (hi : Tryz.prog.info? e = some i) (hz : i.zero = some z)
    (hsize : i.size = 1) (hby : i.bytes = bytes) (hzs : z.cells.size = 1)
    (v : Value) (n : Nat) (xs : List Value) (hs : a.eval s = v) (hown : w.ownsRow base e 1 v n xs)
    (ad : Addr) (c : Nat) (u : Value) (hx : a.eval x = .slice (some ad) 1 c) (hu : w.cell? ad = some u) (h1 : u.oneCell' = true)
    (h63 : n + 1 ≤ 1000000000) (hbytes : bytes ≤ 100) (hbase : base ≤ w.heap.size)
    (h : ∀ v' w', w'.ownsRow base e 1 v' (n + 1) (xs ++ [u]) → w.grownBy w' v.ownBlock → (v'.ownBlock = v.ownBlock ∨ ∃ g, v'.ownBlock = some g ∧ w.heap.size ≤ g) → wpList Tryz.prog ops Q rest (a.put o.dst v') w') : wpList Tryz.prog ops Q (o :: rest) a w := by
  have hnews : ∀ j x, ([u] : List Value)[j]? = some x → w.cell? (ad.add j) = some x := by
    intro j x hj
    match j, hj with
    | 0, hj => simp at hj; subst hj; simpa [Addr.add] using hu
  have h1' : ∀ x ∈ ([u] : List Value), x.oneCell' = true := by intro x hx; simp at hx; rw [hx]; exact h1
  have hb2 : (n + 1) * bytes ≤ 140737488355328 := by
    have : (n + 1) * bytes ≤ 1000000000 * 100 := Nat.mul_le_mul h63 hbytes
    omega
  have hml : n + 1 ≤ maxLen := by unfold maxLen; omega
  have hown' := hown
  obtain ⟨hl, ⟨rfl, rfl⟩ | ⟨g, cap, cur, rfl, hbg, hg, hnc, hcm, hcs, htake⟩⟩ := hown
  · have hx0 : xs = [] := List.eq_nil_of_length_eq_zero (by simpa using hl)
    subst hx0
    refine wpList_append_own w hgd s x t ho w.heap.size e i z 1 bytes ht hi hz hsize hby hzs (by decide) (.slice none 0 0) 0 [] hs ⟨rfl, Or.inl ⟨rfl, rfl⟩⟩ ad 1 c [u] hx (by simp) hnews h1' hml hb2 (Nat.le_refl _) fun v' w' r1 r2 r3 => ?_
    refine h v' w' (ownsRow_base r1 hbase) r2 (Or.inr ?_)
    rcases r1.2 with ⟨e1, _⟩ | ⟨g, cap, cur, e1, e2, _⟩
    · exact absurd (r3.1 e1).2 (by decide)
    · exact ⟨g, by rw [e1]; rfl, e2⟩
  · by_cases hroom : n + 1 ≤ cap
    · exact wpList_append_fits w hgd s x t ho base e i 1 ht hi hsize g n cap xs hs hown' ad 1 c [u] hx (by simp) hnews h1' hroom fun w' r1 r2 => h _ w' r1 r2 (Or.inl rfl)
    · refine wpList_append_grows w hgd s x t ho e i z 1 bytes ht hi hz hsize hby hzs (by decide) (some ⟨g, 0, none⟩) n cap xs hs (fun h => by cases h) (by simpa using hl) (fun b hb j u hj => ?_) ad 1 c [u] hx (by simp) hnews h1' (by omega) hml hb2 fun v' w' r1 r2 => ?_
      · rw [← Option.some.inj hb]
        exact World.ownsRow.cells hown' (g := g) rfl j u hj
      · refine h v' w' (ownsRow_base r1 hbase) (grownBy_any r2 _) (Or.inr ?_)
        rcases r1.2 with ⟨_, e1⟩ | ⟨g', cap', cur', e1, e2, _⟩
        · exact absurd e1 (by omega)
        · exact ⟨g', by rw [e1]; rfl, e2⟩
end Go.Proofs.YtlmilelopajdiaaGreatDoor

/-
  Objects in the making (RepS); geometries that came in as values (ARep); what is sane.
-/
namespace Go.Proofs.YtlmilelopajdiaaGreatDoor
open Go.RowKit

def fv (x : Nat) : Value := .float .f64 x
def iv (x : Int) : Value := .int .i64 x
/-- Object u, in blocks of S, holds the geometry g. -/
def RepS (w : World) (S : Nat → Prop) : Gm → Value → Prop
  | .mk k l _ f e ee kids, u => ∃ b, u = .iface (tyOf k) (.pointer (some ⟨b, 0, none⟩)) ∧ S b ∧ w.cell? ⟨b, 0, none⟩ = some (.int .i64 l) ∧
    (k ≠ 7 → ∃ v, w.cell? ⟨b, 2, none⟩ = some v ∧ OwnS w S v (f.map fv)) ∧
    (k = 3 ∨ k = 4 ∨ k = 5 → ∃ v, w.cell? ⟨b, 4, none⟩ = some v ∧ OwnS w S v (e.map iv)) ∧
    (k = 6 → ∃ v vs, w.cell? ⟨b, 4, none⟩ = some v ∧ OwnS w S v vs ∧ vs.length = ee.length ∧ ∀ (i : Nat) (x : Value) (es : List Int), vs[i]? = some x → ee[i]? = some es → OwnS w S x (es.map iv)) ∧
    (k = 7 → ∃ v xs, w.cell? ⟨b, 1, none⟩ = some v ∧ OwnS w S v xs ∧ xs.length = kids.length ∧ ∀ (i : Nat) x g (_h : kids[i]? = some g), xs[i]? = some x → RepS w S g x)
termination_by g => SizeOf.sizeOf g
decreasing_by
  have := List.sizeOf_lt_of_mem (List.mem_of_getElem? _h)
  simp only [Gm.mk.sizeOf_spec]
  omega
theorem cell_heap {w w' : World} {b : Nat} (h : w'.heap[b]? = w.heap[b]?) (o : Nat) : w'.cell? ⟨b, o, none⟩ = w.cell? ⟨b, o, none⟩ := by
  unfold World.cell?
  rw [h]
theorem RepS.frame {w w' : World} : ∀ (g : Gm) (S S' : Nat → Prop) (u : Value), RepS w S g u → (∀ b, S b → S' b) → (∀ b, S b → w'.heap[b]? = w.heap[b]?) → RepS w' S' g u := by
  intro g
  induction g using Gm.ind with
  | h k l s f e ee kids ih =>
    intro S S' u h hS hf
    unfold RepS at h ⊢
    obtain ⟨b, h1, h2, h3, h4, h5, h6, h7⟩ := h
    refine ⟨b, h1, hS b h2, by rw [cell_heap (hf b h2)]; exact h3, fun hk => ?_, fun hk => ?_, fun hk => ?_, fun hk => ?_⟩
    · obtain ⟨v, a1, a2⟩ := h4 hk
      exact ⟨v, by rw [cell_heap (hf b h2)]; exact a1, a2.frame hS hf⟩
    · obtain ⟨v, a1, a2⟩ := h5 hk
      exact ⟨v, by rw [cell_heap (hf b h2)]; exact a1, a2.frame hS hf⟩
    · obtain ⟨v, vs, a1, a2, a3, a4⟩ := h6 hk
      exact ⟨v, vs, by rw [cell_heap (hf b h2)]; exact a1, a2.frame hS hf, a3, fun i x es hx he => (a4 i x es hx he).frame hS hf⟩
    · obtain ⟨v, xs, a1, a2, a3, a4⟩ := h7 hk
      exact ⟨v, xs, by rw [cell_heap (hf b h2)]; exact a1, a2.frame hS hf, a3, fun i x g hg hx => ih g (List.mem_of_getElem? hg) S S' x (a4 i x g hg hx) hS hf⟩
/-- Numbers and lengths in their ranges. -/
def Sane : Gm → Prop
  | .mk k _ _ f e ee kids => (∀ x ∈ f, x < 18446744073709551616) ∧ f.length ≤ 1000000 ∧ e.length ≤ 1000000 ∧ ee.length ≤ 1000000 ∧ (∀ es ∈ ee, es.length ≤ 1000000) ∧ kids.length ≤ 1000000 ∧
    (k = 3 ∨ k = 4 ∨ k = 5 → ∀ x ∈ e, 0 ≤ x ∧ x ≤ 1000000) ∧ (k = 6 → ∀ es ∈ ee, ∀ x ∈ es, 0 ≤ x ∧ x ≤ 1000000) ∧ ∀ g (_h : g ∈ kids), Sane g
termination_by g => SizeOf.sizeOf g
decreasing_by
  have := List.sizeOf_lt_of_mem _h
  simp only [Gm.mk.sizeOf_spec]
  omega
theorem sane_eq (k l s : Int) (f : List Nat) (e : List Int) (ee : List (List Int)) (kids : List Gm) : Sane (.mk k l s f e ee kids) ↔ (∀ x ∈ f, x < 18446744073709551616) ∧ f.length ≤ 1000000 ∧ e.length ≤ 1000000 ∧ ee.length ≤ 1000000 ∧ (∀ es ∈ ee, es.length ≤ 1000000) ∧ kids.length ≤ 1000000 ∧
    (k = 3 ∨ k = 4 ∨ k = 5 → ∀ x ∈ e, 0 ≤ x ∧ x ≤ 1000000) ∧ (k = 6 → ∀ es ∈ ee, ∀ x ∈ es, 0 ≤ x ∧ x ≤ 1000000) ∧ ∀ g, g ∈ kids → Sane g := by
  rw [Sane]
theorem OwnS.frow {w : World} {S : Nat → Prop} {B : Nat} {v : Value} {f : List Nat} (h : OwnS w S v (f.map fv)) (hS : ∀ b, S b → b < B) (h1 : ∀ x ∈ f, x < 18446744073709551616) (h2 : f.length ≤ 1000000) : FRow w B v f := by
  refine ⟨h1, by omega, ?_⟩
  rcases h with ⟨h3, h4⟩ | ⟨b, cap, h3, h4, h5, h6, h7⟩
  · exact Or.inl ⟨List.map_eq_nil_iff.1 h3, h4⟩
  · rw [List.length_map] at h3 h5
    refine Or.inr ⟨b, 0, cap, h3, hS b h4, h5, h6, fun j hj => ?_⟩
    rw [Nat.zero_add]
    exact h7 j _ (by rw [List.getElem?_map, List.getElem?_eq_getElem hj]; rfl)
theorem OwnS.irow {w : World} {S : Nat → Prop} {B : Nat} {v : Value} {e : List Int} (h : OwnS w S v (e.map iv)) (hS : ∀ b, S b → b < B) (h1 : ∀ x ∈ e, 0 ≤ x ∧ x ≤ 1000000) (h2 : e.length ≤ 1000000) : IRow w B v (nats e) := by
  have hl : (nats e).length = e.length := by unfold nats; rw [List.length_map]
  refine ⟨by omega, fun x hx => ?_, ?_⟩
  · obtain ⟨y, hy, rfl⟩ := List.mem_map.1 hx
    have := h1 y hy
    omega
  · rcases h with ⟨h3, h4⟩ | ⟨b, cap, h3, h4, h5, h6, h7⟩
    · rw [List.map_eq_nil_iff.1 h3]
      exact Or.inl ⟨rfl, h4⟩
    · rw [List.length_map] at h3 h5
      refine Or.inr ⟨b, 0, cap, by rw [hl]; exact h3, hS b h4, by omega, h6, fun j hj => ?_⟩
      rw [Nat.zero_add]
      have hj' : j < e.length := by omega
      have hx : (nats e)[j] = (e[j]).toNat := by simp [nats]
      have hp := (h1 _ (List.getElem_mem hj')).1
      rw [hx, Int.toNat_of_nonneg hp]
      exact h7 j _ (by rw [List.getElem?_map, List.getElem?_eq_getElem hj']; rfl)
theorem RepS.rep {w : World} {B : Nat} : ∀ (g : Gm) (S : Nat → Prop) (u : Value), RepS w S g u → (∀ b, S b → b < B) → Sane g → Rep w B g u := by
  intro g
  induction g using Gm.ind with
  | h k l s f e ee kids ih =>
    intro S u h hS hs
    rw [sane_eq] at hs
    obtain ⟨s1, s2, s3, s4, s5, s6, s7, s8, s9⟩ := hs
    unfold RepS at h
    unfold Rep
    obtain ⟨b, h1, h2, h3, h4, h5, h6, h7⟩ := h
    refine ⟨b, h1, hS b h2, h3, fun hk => ?_, fun hk => ?_, fun hk => ?_, fun hk => ?_⟩
    · obtain ⟨v, a1, a2⟩ := h4 hk
      exact ⟨v, a1, a2.frow hS s1 s2⟩
    · obtain ⟨v, a1, a2⟩ := h5 hk
      exact ⟨v, a1, a2.irow hS (s7 hk) s3⟩
    · obtain ⟨v, vs, a1, a2, a3, a4⟩ := h6 hk
      refine ⟨v, a1, by rw [List.length_map]; omega, ?_⟩
      rcases a2 with ⟨e1, e2⟩ | ⟨b', cap, e1, e2, e3, e4, e5⟩
      · have : ee = [] := List.length_eq_zero_iff.1 (by rw [← a3, e1]; rfl)
        exact Or.inl ⟨by rw [this]; rfl, e2⟩
      · refine Or.inr ⟨b', 0, cap, by rw [List.length_map, ← a3]; exact e1, hS b' e2, by rw [List.length_map, ← a3]; exact e3, e4, fun j hj => ?_⟩
        rw [List.length_map] at hj
        have hj' : j < vs.length := by omega
        refine ⟨vs[j], by rw [Nat.zero_add]; exact e5 j _ (List.getElem?_eq_getElem hj'), ?_⟩
        rw [List.getElem_map]
        exact (a4 j _ _ (List.getElem?_eq_getElem hj') (List.getElem?_eq_getElem hj)).irow hS (s8 hk _ (List.getElem_mem hj)) (s5 _ (List.getElem_mem hj))
    · obtain ⟨v, xs, a1, a2, a3, a4⟩ := h7 hk
      refine ⟨v, a1, by omega, ?_⟩
      rcases a2 with ⟨e1, e2⟩ | ⟨b', cap, e1, e2, e3, e4, e5⟩
      · have : kids = [] := List.length_eq_zero_iff.1 (by rw [← a3, e1]; rfl)
        exact Or.inl ⟨this, e2⟩
      · refine Or.inr ⟨b', 0, cap, by rw [← a3]; exact e1, hS b' e2, by rw [← a3]; exact e3, e4, fun j hj => ?_⟩
        have hj' : j < xs.length := by omega
        refine ⟨xs[j], by rw [Nat.zero_add]; exact e5 j _ (List.getElem?_eq_getElem hj'), ?_⟩
        exact ih _ (List.getElem_mem hj) S _ (a4 j _ _ (List.getElem?_eq_getElem hj) (List.getElem?_eq_getElem hj')) hS (s9 _ (List.getElem_mem hj))

/-- Slice v holds values of seven cells each, below block B. -/
def RowK (w : World) (B : Nat) (v : Value) (css : List (List Value)) : Prop :=
  ∃ a cap, v = .slice a css.length cap ∧ css.length ≤ cap ∧ (css.length ≤ 1000000000 ∧ cap ≤ 9223372036854775807) ∧ (a = none → css = [] ∧ cap = 0) ∧ (css ≠ [] → ∃ b o, a = some ⟨b, o, none⟩ ∧ b < B ∧ ∀ j cs, css[j]? = some cs → ∀ i u, cs[i]? = some u → w.cell? ⟨b, o + j * 7 + i, none⟩ = some u)
theorem RowK.below {w w' : World} {B : Nat} {v : Value} {vals : List (List Value)} (h : RowK w B v vals) (hb : Below B w w') : RowK w' B v vals := by
  obtain ⟨a, cap, h1, h2, h3, h4, h5⟩ := h
  refine ⟨a, cap, h1, h2, h3, h4, fun hn => ?_⟩
  obtain ⟨b, o, e1, e2, e3⟩ := h5 hn
  exact ⟨b, o, e1, e2, fun j cs hc i u hu => by rw [hb.cell e2]; exact e3 j cs hc i u hu⟩
theorem RowK.mono {w : World} {B B' : Nat} {v : Value} {vals : List (List Value)} (h : RowK w B v vals) (hb : B ≤ B') : RowK w B' v vals := by
  obtain ⟨a, cap, h1, h2, h3, h4, h5⟩ := h
  refine ⟨a, cap, h1, h2, h3, h4, fun hn => ?_⟩
  obtain ⟨b, o, e1, e2, e3⟩ := h5 hn
  exact ⟨b, o, e1, by omega, e3⟩
/-- The seven cells of a geometry that came in. -/
def ARep (w : World) (B : Nat) : Gm → List Value → Prop
  | .mk k l s f e ee kids, cs => ∃ vf ve vee vk, cs = [.int .i64 k, .int .i64 l, .int .i64 s, vf, ve, vee, vk] ∧ Row w B vf (f.map fv) ∧ Row w B ve (e.map iv) ∧
    (∃ vs, Row w B vee vs ∧ vs.length = ee.length ∧ ∀ (i : Nat) (x : Value) (es : List Int), vs[i]? = some x → ee[i]? = some es → Row w B x (es.map iv)) ∧
    ∃ css : List (List Value), RowK w B vk css ∧ css.length = kids.length ∧ ∀ (i : Nat) c g (_h : kids[i]? = some g), css[i]? = some c → ARep w B g c
termination_by g => SizeOf.sizeOf g
decreasing_by
  have := List.sizeOf_lt_of_mem (List.mem_of_getElem? _h)
  simp only [Gm.mk.sizeOf_spec]
  omega
theorem ARep.below {w w' : World} {B B' : Nat} (hb : Below B w w') (hB : B ≤ B') : ∀ (g : Gm) (cs : List Value), ARep w B g cs → ARep w' B' g cs := by
  intro g
  induction g using Gm.ind with
  | h k l s f e ee kids ih =>
    intro cs h
    unfold ARep at h ⊢
    obtain ⟨vf, ve, vee, vk, h1, h2, h3, ⟨vs, h4, h5, h6⟩, css, h7, h8, h9⟩ := h
    exact ⟨vf, ve, vee, vk, h1, (h2.below hb).mono hB, (h3.below hb).mono hB, ⟨vs, (h4.below hb).mono hB, h5, fun i x es hx he => ((h6 i x es hx he).below hb).mono hB⟩, css, (h7.below hb).mono hB, h8, fun i c g hg hc => ih g (List.mem_of_getElem? hg) c (h9 i c g hg hc)⟩
theorem arep_eq (w : World) (B : Nat) (k l s : Int) (f : List Nat) (e : List Int) (ee : List (List Int)) (kids : List Gm) (cs : List Value) : ARep w B (.mk k l s f e ee kids) cs ↔ ∃ vf ve vee vk, cs = [.int .i64 k, .int .i64 l, .int .i64 s, vf, ve, vee, vk] ∧ Row w B vf (f.map fv) ∧ Row w B ve (e.map iv) ∧
    (∃ vs, Row w B vee vs ∧ vs.length = ee.length ∧ ∀ (i : Nat) (x : Value) (es : List Int), vs[i]? = some x → ee[i]? = some es → Row w B x (es.map iv)) ∧
    ∃ css : List (List Value), RowK w B vk css ∧ css.length = kids.length ∧ ∀ (i : Nat) c g, kids[i]? = some g → css[i]? = some c → ARep w B g c := by
  rw [ARep]
end Go.Proofs.YtlmilelopajdiaaGreatDoor

/-
  The objects' makers and their SetSRID.
-/
namespace Go.Proofs.YtlmilelopajdiaaGreatDoor
open Go.RowKit

theorem OwnS.lit {w : World} {S : Nat → Prop} {v : Value} {vals : List Value} (h : OwnS w S v vals) : ∃ a cap, v = .slice a vals.length cap := by
  rcases h with ⟨rfl, rfl⟩ | ⟨b, cap, rfl, _⟩
  · exact ⟨none, 0, rfl⟩
  · exact ⟨_, cap, rfl⟩

set_option maxRecDepth 100000 in
theorem newPoint (w : World) (l : Int) (a : Option Addr) (n cap : Nat) : Calls Tryz.prog 28 #[.int .i64 l, .slice a n cap] w fun e w' => e = .returned (.pointer (some ⟨w.heap.size, 0, none⟩)) ∧ w' = w.alloc (.cells #[.int .i64 l, .int .i64 (stride l), .slice a n cap, .int .i64 0] 106) := by
  go_enter Tryz.func28, Tryz.ntmps28
  go_wp2_with fail
  refine (strideCall l _).mono ?_
  rintro e w' ⟨rfl, rfl⟩
  go_wp2_with fail
  go_ret
  exact ⟨rfl, rfl⟩
set_option maxRecDepth 100000 in
theorem newLine (w : World) (l : Int) (a : Option Addr) (n cap : Nat) : Calls Tryz.prog 30 #[.int .i64 l, .slice a n cap] w fun e w' => e = .returned (.pointer (some ⟨w.heap.size, 0, none⟩)) ∧ w' = w.alloc (.cells #[.int .i64 l, .int .i64 (stride l), .slice a n cap, .int .i64 0] 110) := by
  go_enter Tryz.func30, Tryz.ntmps30
  go_wp2_with fail
  refine (strideCall l _).mono ?_
  rintro e w' ⟨rfl, rfl⟩
  go_wp2_with fail
  go_ret
  exact ⟨rfl, rfl⟩
set_option maxRecDepth 100000 in
theorem newRing (w : World) (l : Int) (a : Option Addr) (n cap : Nat) : Calls Tryz.prog 32 #[.int .i64 l, .slice a n cap] w fun e w' => e = .returned (.pointer (some ⟨w.heap.size, 0, none⟩)) ∧ w' = w.alloc (.cells #[.int .i64 l, .int .i64 (stride l), .slice a n cap, .int .i64 0] 111) := by
  go_enter Tryz.func32, Tryz.ntmps32
  go_wp2_with fail
  refine (strideCall l _).mono ?_
  rintro e w' ⟨rfl, rfl⟩
  go_wp2_with fail
  go_ret
  exact ⟨rfl, rfl⟩
set_option maxRecDepth 100000 in
theorem newPoly (w : World) (l : Int) (a a4 : Option Addr) (n cap n4 cap4 : Nat) : Calls Tryz.prog 34 #[.int .i64 l, .slice a n cap, .slice a4 n4 cap4] w fun e w' => e = .returned (.pointer (some ⟨w.heap.size, 0, none⟩)) ∧ w' = w.alloc (.cells #[.int .i64 l, .int .i64 (stride l), .slice a n cap, .int .i64 0, .slice a4 n4 cap4] 115) := by
  go_enter Tryz.func34, Tryz.ntmps34
  go_wp2_with fail
  refine (strideCall l _).mono ?_
  rintro e w' ⟨rfl, rfl⟩
  go_wp2_with fail
  go_ret
  exact ⟨rfl, rfl⟩
set_option maxRecDepth 100000 in
theorem newLines (w : World) (l : Int) (a a4 : Option Addr) (n cap n4 cap4 : Nat) : Calls Tryz.prog 40 #[.int .i64 l, .slice a n cap, .slice a4 n4 cap4] w fun e w' => e = .returned (.pointer (some ⟨w.heap.size, 0, none⟩)) ∧ w' = w.alloc (.cells #[.int .i64 l, .int .i64 (stride l), .slice a n cap, .int .i64 0, .slice a4 n4 cap4] 118) := by
  go_enter Tryz.func40, Tryz.ntmps40
  go_wp2_with fail
  refine (strideCall l _).mono ?_
  rintro e w' ⟨rfl, rfl⟩
  go_wp2_with fail
  go_ret
  exact ⟨rfl, rfl⟩
set_option maxRecDepth 100000 in
theorem newPolys (w : World) (l : Int) (a a4 : Option Addr) (n cap n4 cap4 : Nat) : Calls Tryz.prog 42 #[.int .i64 l, .slice a n cap, .slice a4 n4 cap4] w fun e w' => e = .returned (.pointer (some ⟨w.heap.size, 0, none⟩)) ∧ w' = w.alloc (.cells #[.int .i64 l, .int .i64 (stride l), .slice a n cap, .int .i64 0, .slice a4 n4 cap4] 122) := by
  go_enter Tryz.func42, Tryz.ntmps42
  go_wp2_with fail
  refine (strideCall l _).mono ?_
  rintro e w' ⟨rfl, rfl⟩
  go_wp2_with fail
  go_ret
  exact ⟨rfl, rfl⟩
set_option maxRecDepth 100000 in
theorem sridPoint (w : World) (b : Nat) (s : Int) (u : Value) (h : w.cell? ⟨b, 3, none⟩ = some u) (hf : w.frozen? ⟨b, 3, none⟩ = false) : Calls Tryz.prog 29 #[.pointer (some ⟨b, 0, none⟩), .int .i64 s] w fun e w' => e = .returned (.pointer (some ⟨b, 0, none⟩)) ∧ w' = w.setCell ⟨b, 3, none⟩ (.int .i64 s) := by
  go_enter Tryz.func29, Tryz.ntmps29
  go_wp2_with fail
  go_ret
  exact ⟨rfl, rfl⟩
set_option maxRecDepth 100000 in
theorem sridLine (w : World) (b : Nat) (s : Int) (u : Value) (h : w.cell? ⟨b, 3, none⟩ = some u) (hf : w.frozen? ⟨b, 3, none⟩ = false) : Calls Tryz.prog 31 #[.pointer (some ⟨b, 0, none⟩), .int .i64 s] w fun e w' => e = .returned (.pointer (some ⟨b, 0, none⟩)) ∧ w' = w.setCell ⟨b, 3, none⟩ (.int .i64 s) := by
  go_enter Tryz.func31, Tryz.ntmps31
  go_wp2_with fail
  go_ret
  exact ⟨rfl, rfl⟩
set_option maxRecDepth 100000 in
theorem sridRing (w : World) (b : Nat) (s : Int) (u : Value) (h : w.cell? ⟨b, 3, none⟩ = some u) (hf : w.frozen? ⟨b, 3, none⟩ = false) : Calls Tryz.prog 33 #[.pointer (some ⟨b, 0, none⟩), .int .i64 s] w fun e w' => e = .returned (.pointer (some ⟨b, 0, none⟩)) ∧ w' = w.setCell ⟨b, 3, none⟩ (.int .i64 s) := by
  go_enter Tryz.func33, Tryz.ntmps33
  go_wp2_with fail
  go_ret
  exact ⟨rfl, rfl⟩
set_option maxRecDepth 100000 in
theorem sridPoly (w : World) (b : Nat) (s : Int) (u : Value) (h : w.cell? ⟨b, 3, none⟩ = some u) (hf : w.frozen? ⟨b, 3, none⟩ = false) : Calls Tryz.prog 36 #[.pointer (some ⟨b, 0, none⟩), .int .i64 s] w fun e w' => e = .returned (.pointer (some ⟨b, 0, none⟩)) ∧ w' = w.setCell ⟨b, 3, none⟩ (.int .i64 s) := by
  go_enter Tryz.func36, Tryz.ntmps36
  go_wp2_with fail
  go_ret
  exact ⟨rfl, rfl⟩
set_option maxRecDepth 100000 in
theorem sridPoints (w : World) (b : Nat) (s : Int) (u : Value) (h : w.cell? ⟨b, 3, none⟩ = some u) (hf : w.frozen? ⟨b, 3, none⟩ = false) : Calls Tryz.prog 39 #[.pointer (some ⟨b, 0, none⟩), .int .i64 s] w fun e w' => e = .returned (.pointer (some ⟨b, 0, none⟩)) ∧ w' = w.setCell ⟨b, 3, none⟩ (.int .i64 s) := by
  go_enter Tryz.func39, Tryz.ntmps39
  go_wp2_with fail
  go_ret
  exact ⟨rfl, rfl⟩
set_option maxRecDepth 100000 in
theorem sridLines (w : World) (b : Nat) (s : Int) (u : Value) (h : w.cell? ⟨b, 3, none⟩ = some u) (hf : w.frozen? ⟨b, 3, none⟩ = false) : Calls Tryz.prog 41 #[.pointer (some ⟨b, 0, none⟩), .int .i64 s] w fun e w' => e = .returned (.pointer (some ⟨b, 0, none⟩)) ∧ w' = w.setCell ⟨b, 3, none⟩ (.int .i64 s) := by
  go_enter Tryz.func41, Tryz.ntmps41
  go_wp2_with fail
  go_ret
  exact ⟨rfl, rfl⟩
set_option maxRecDepth 100000 in
theorem sridPolys (w : World) (b : Nat) (s : Int) (u : Value) (h : w.cell? ⟨b, 3, none⟩ = some u) (hf : w.frozen? ⟨b, 3, none⟩ = false) : Calls Tryz.prog 44 #[.pointer (some ⟨b, 0, none⟩), .int .i64 s] w fun e w' => e = .returned (.pointer (some ⟨b, 0, none⟩)) ∧ w' = w.setCell ⟨b, 3, none⟩ (.int .i64 s) := by
  go_enter Tryz.func44, Tryz.ntmps44
  go_wp2_with fail
  go_ret
  exact ⟨rfl, rfl⟩
set_option maxRecDepth 100000 in
theorem sridColl (w : World) (b : Nat) (s : Int) (u : Value) (h : w.cell? ⟨b, 2, none⟩ = some u) (hf : w.frozen? ⟨b, 2, none⟩ = false) : Calls Tryz.prog 46 #[.pointer (some ⟨b, 0, none⟩), .int .i64 s] w fun e w' => e = .returned (.pointer (some ⟨b, 0, none⟩)) ∧ w' = w.setCell ⟨b, 2, none⟩ (.int .i64 s) := by
  go_enter Tryz.func46, Tryz.ntmps46
  go_wp2_with fail
  go_ret
  exact ⟨rfl, rfl⟩
set_option maxRecDepth 100000 in
theorem newColl (w : World) : Calls Tryz.prog 45 #[] w fun e w' => e = .returned (.pointer (some ⟨w.heap.size, 0, none⟩)) ∧ w' = w.alloc (.cells #[.int .i64 0, .slice none 0 0, .int .i64 0] 125) := by
  go_enter Tryz.func45, Tryz.ntmps45
  go_wp2_with fail
  go_ret
  exact ⟨rfl, rfl⟩
set_option maxRecDepth 100000 in
theorem optEnds (w : World) (a : Option Addr) (n cap : Nat) : Calls Tryz.prog 38 #[.slice a n cap] w fun e w' => e = .returned (.func (.func 56) #[] #[.pointer (some ⟨w.heap.size, 0, none⟩)]) ∧ w' = w.alloc (.cells #[.slice a n cap] 23) := by
  go_enter Tryz.func38, Tryz.ntmps38
  go_wp2_with fail
  go_ret
  exact ⟨rfl, rfl⟩
end Go.Proofs.YtlmilelopajdiaaGreatDoor

/-
  NewMultiPointFlat with its option.
-/
namespace Go.Proofs.YtlmilelopajdiaaGreatDoor
open Go.RowKit

theorem slNone (w : World) : (binOp .eql 23 (.slice none 0 0) (.slice none 0 0)).run Tryz.prog w = .ok (.bool true) w := by kernel_rfl
theorem slSome (w : World) (b : Addr) (n c : Nat) : (binOp .eql 23 (.slice (some b) n c) (.slice none 0 0)).run Tryz.prog w = .ok (.bool false) w := by kernel_rfl
set_option maxRecDepth 100000 in
theorem optCall (w : World) (ob eb : Nat) (u v : Value) (a4 : Option Addr) (n4 cap4 : Nat) (hv : v = .slice a4 n4 cap4) (he : w.cell? ⟨eb, 0, none⟩ = some v) (h4 : w.cell? ⟨ob, 4, none⟩ = some u) (hf : w.frozen? ⟨ob, 4, none⟩ = false) :
    Calls Tryz.prog 56 #[.pointer (some ⟨ob, 0, none⟩), .pointer (some ⟨eb, 0, none⟩)] w fun e w' => e = .returned (.tuple #[]) ∧ w' = w.setCell ⟨ob, 4, none⟩ v := by
  subst hv
  go_enter Tryz.func56, Tryz.ntmps56
  go_wp2_with fail
  go_end0
  exact ⟨rfl, rfl⟩
set_option maxRecDepth 100000 in
set_option maxHeartbeats 2000000 in
theorem newPoints (w : World) (l : Int) (a a4 : Option Addr) (n cap n4 cap4 ob eb : Nat) (h1 : w.cell? ⟨ob, 0, none⟩ = some (.func (.func 56) #[] #[.pointer (some ⟨eb, 0, none⟩)])) (h2 : w.cell? ⟨eb, 0, none⟩ = some (.slice a4 n4 cap4)) (ho : ob < w.heap.size) (he : eb < w.heap.size)
    (h4 : (a4 = none ∧ n4 = 0 ∧ cap4 = 0 ∧ n = 0) ∨ ∃ b, a4 = some ⟨b, 0, none⟩) : Calls Tryz.prog 37 #[.int .i64 l, .slice a n cap, .slice (some ⟨ob, 0, none⟩) 1 1] w fun e w' => e = .returned (.pointer (some ⟨w.heap.size, 0, none⟩)) ∧ w' = w.alloc (.cells #[.int .i64 l, .int .i64 (stride l), .slice a n cap, .int .i64 0, .slice a4 n4 cap4] 117) := by
  have H4 := Lib.hid h4
  have sl1 := slNone
  have sl2 := slSome
  clear h4
  go_enter Tryz.func37, Tryz.ntmps37
  go_wp2_with fail
  refine (strideCall l _).mono ?_
  rintro e w' ⟨rfl, rfl⟩
  go_wp2_with fail
  go_loopg [37] 1 (fun g v37 wr => ∃ (k : Nat) (u : Value), k + g = 1 ∧ v37 = .int .i64 k ∧ wr = w.alloc (.cells #[.int .i64 l, .int .i64 (stride l), .slice a n cap, .int .i64 0, u] 117) ∧ (k = 0 → u = .slice none 0 0) ∧ (k = 1 → u = .slice a4 n4 cap4))
  case atStart => exact ⟨0, .slice none 0 0, rfl, rfl, rfl, fun _ => rfl, fun h => absurd h (by decide)⟩
  case round =>
    obtain ⟨k, u, hk, rfl, rfl, hu0, hu1⟩ := hrel
    by_cases hk0 : k = 0
    · subst hk0
      obtain rfl := hu0 rfl
      go_wp2_with fail
      have he2 : (w.alloc (.cells #[.int .i64 l, .int .i64 (stride l), .slice a n cap, .int .i64 0, .slice none 0 0] 117)).cell? ⟨eb, 0, none⟩ = some (.slice a4 n4 cap4) := by
        rw [cell_heap (Below.heap_alloc w _ eb he)]; exact h2
      refine (optCall _ w.heap.size eb (.slice none 0 0) _ a4 n4 cap4 rfl he2 (by go_cell) (by go_cell)).mono ?_
      rintro e w' ⟨rfl, rfl⟩
      go_wp2_with fail
      go_roundg (gk - 1)
      case measure => omega
      case rel => exact ⟨1, .slice a4 n4 cap4, by omega, by go_num, rfl, fun h => absurd h (by decide), fun _ => rfl⟩
    · obtain rfl : k = 1 := by omega
      obtain rfl := hu1 rfl
      rcases H4.out with ⟨rfl, rfl, rfl, rfl⟩ | ⟨b, rfl⟩
      · go_wp2_with fail
        go_ret
        exact ⟨rfl, rfl⟩
      · go_wp2_with fail
        go_ret
        exact ⟨rfl, rfl⟩
end Go.Proofs.YtlmilelopajdiaaGreatDoor
