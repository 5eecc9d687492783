/-
  Geometries as trees; what a geometry's object holds.
-/
import Derived.Test.YtlmilelopajdiaaGreatDoorUD3
import Derived.Handy
namespace Go.Proofs.YtlmilelopajdiaaGreatDoor
open Go.RowKit

/-- A geometry. -/
inductive Gm where
  | mk (kind layout srid : Int) (flat : List Nat) (ends : List Int) (endss : List (List Int)) (kids : List Gm)
namespace Gm
def kind : Gm → Int | mk k _ _ _ _ _ _ => k
def layout : Gm → Int | mk _ l _ _ _ _ _ => l
def srid : Gm → Int | mk _ _ s _ _ _ _ => s
def flat : Gm → List Nat | mk _ _ _ f _ _ _ => f
def ends : Gm → List Int | mk _ _ _ _ e _ _ => e
def endss : Gm → List (List Int) | mk _ _ _ _ _ e _ => e
def kids : Gm → List Gm | mk _ _ _ _ _ _ k => k
/-- Induction over the kids. -/
theorem ind {P : Gm → Prop} (h : ∀ k l s f e ee kids, (∀ g, g ∈ kids → P g) → P (mk k l s f e ee kids)) : ∀ g, P g
  | mk k l s f e ee kids => h k l s f e ee kids fun g _ => ind h g
end Gm

def stride (l : Int) : Int := if l = 0 then 0 else if l = 1 then 2 else if l = 2 then 3 else if l = 3 then 3 else if l = 4 then 4 else l
theorem strideCall (l : Int) (w : World) : Calls Tryz.prog 55 #[.int .i64 l] w fun e w' => e = .returned (.int .i64 (stride l)) ∧ w = w' := by
  by_cases h0 : l = 0
  · subst h0
    go_enter Tryz.func55, Tryz.ntmps55
    go_wp2_with fail
    go_ret
    exact ⟨rfl, rfl⟩
  · by_cases h1 : l = 1
    · subst h1
      go_enter Tryz.func55, Tryz.ntmps55
      go_wp2_with fail
      go_ret
      exact ⟨rfl, rfl⟩
    · by_cases h2 : l = 2
      · subst h2
        go_enter Tryz.func55, Tryz.ntmps55
        go_wp2_with fail
        go_ret
        exact ⟨rfl, rfl⟩
      · by_cases h3 : l = 3
        · subst h3
          go_enter Tryz.func55, Tryz.ntmps55
          go_wp2_with fail
          go_ret
          exact ⟨rfl, rfl⟩
        · by_cases h4 : l = 4
          · subst h4
            go_enter Tryz.func55, Tryz.ntmps55
            go_wp2_with fail
            go_ret
            exact ⟨rfl, rfl⟩
          · have hs : Hid (stride l = l) := Lib.hid (by unfold stride; simp [h0, h1, h2, h3, h4])
            have b0 : (l == 0) = false := beq_eq_false_iff_ne.2 h0
            have b1 : (l == 1) = false := beq_eq_false_iff_ne.2 h1
            have b2 : (l == 2) = false := beq_eq_false_iff_ne.2 h2
            have b3 : (l == 3) = false := beq_eq_false_iff_ne.2 h3
            have b4 : (l == 4) = false := beq_eq_false_iff_ne.2 h4
            clear h0 h1 h2 h3 h4
            go_enter Tryz.func55, Tryz.ntmps55
            go_wp2_with fail
            go_ret
            exact ⟨by rw [hs.out]; rfl, rfl⟩
end Go.Proofs.YtlmilelopajdiaaGreatDoor

/-
  What a geometry's object holds; its methods that only read.
-/
namespace Go.Proofs.YtlmilelopajdiaaGreatDoor
open Go.RowKit

def tyOf (k : Int) : TypeId := if k = 1 then 62 else if k = 2 then 65 else if k = 8 then 68 else if k = 3 then 71 else if k = 4 then 75 else if k = 5 then 81 else if k = 6 then 84 else 88
def nats (es : List Int) : List Nat := es.map Int.toNat
/-- Object u holds the geometry g, below block B. -/
def Rep (w : World) (B : Nat) : Gm → Value → Prop
  | .mk k l _ f e ee kids, u => ∃ b, u = .iface (tyOf k) (.pointer (some ⟨b, 0, none⟩)) ∧ b < B ∧ w.cell? ⟨b, 0, none⟩ = some (.int .i64 l) ∧
    (k ≠ 7 → ∃ v, w.cell? ⟨b, 2, none⟩ = some v ∧ FRow w B v f) ∧
    (k = 3 ∨ k = 4 ∨ k = 5 → ∃ v, w.cell? ⟨b, 4, none⟩ = some v ∧ IRow w B v (nats e)) ∧
    (k = 6 → ∃ v, w.cell? ⟨b, 4, none⟩ = some v ∧ SRow w B v (ee.map nats)) ∧
    (k = 7 → ∃ v, w.cell? ⟨b, 1, none⟩ = some v ∧ kids.length ≤ 1000000000 ∧ ((kids = [] ∧ v = .slice none 0 0) ∨ ∃ c o cap, v = .slice (some ⟨c, o, none⟩) kids.length cap ∧ c < B ∧ kids.length ≤ cap ∧ cap ≤ 9223372036854775807 ∧
      ∀ (j : Nat) (hj : j < kids.length), ∃ x, w.cell? ⟨c, o + j, none⟩ = some x ∧ Rep w B kids[j] x))
termination_by g => SizeOf.sizeOf g
decreasing_by
  have := List.sizeOf_lt_of_mem (List.getElem_mem hj)
  simp only [Gm.mk.sizeOf_spec]
  omega
theorem Rep.below {w w' : World} {B : Nat} (hb : Below B w w') : ∀ (g : Gm) (u : Value), Rep w B g u → Rep w' B g u := by
  intro g
  induction g using Gm.ind with
  | h k l s f e ee kids ih =>
    intro u h
    unfold Rep at h ⊢
    obtain ⟨b, h1, h2, h3, h4, h5, h6, h7⟩ := h
    refine ⟨b, h1, h2, by rw [hb.cell h2]; exact h3, fun hk => ?_, fun hk => ?_, fun hk => ?_, fun hk => ?_⟩
    · obtain ⟨v, a1, a2⟩ := h4 hk
      exact ⟨v, by rw [hb.cell h2]; exact a1, a2.below hb⟩
    · obtain ⟨v, a1, a2⟩ := h5 hk
      exact ⟨v, by rw [hb.cell h2]; exact a1, a2.below hb⟩
    · obtain ⟨v, a1, a2⟩ := h6 hk
      exact ⟨v, by rw [hb.cell h2]; exact a1, a2.below hb⟩
    · obtain ⟨v, a1, a0, a2⟩ := h7 hk
      refine ⟨v, by rw [hb.cell h2]; exact a1, a0, ?_⟩
      rcases a2 with a2 | ⟨c, o, cap, a2, a3, a4, a5, a6⟩
      · exact Or.inl a2
      · refine Or.inr ⟨c, o, cap, a2, a3, a4, a5, fun j hj => ?_⟩
        obtain ⟨x, x1, x2⟩ := a6 j hj
        exact ⟨x, by rw [hb.cell a3]; exact x1, ih _ (List.getElem_mem hj) x x2⟩
end Go.Proofs.YtlmilelopajdiaaGreatDoor

/-
  The objects' methods that read one field.
-/
namespace Go.Proofs.YtlmilelopajdiaaGreatDoor
open Go.RowKit

theorem gEmpty (b : Nat) (w : World) (a : Option Addr) (n cap : Nat) (h : w.cell? ⟨b, 2, none⟩ = some (.slice a n cap)) : Calls Tryz.prog 63 #[.pointer (some ⟨b, 0, none⟩)] w fun e w' => e = .returned (.bool ((n : Int) == 0)) ∧ w = w' := by
  go_enter Tryz.func63, Tryz.ntmps63
  go_wp2_with fail
  go_ret
  exact ⟨rfl, rfl⟩
theorem gFlat (b : Nat) (w : World) (v : Value) (h : w.cell? ⟨b, 2, none⟩ = some v) : Calls Tryz.prog 66 #[.pointer (some ⟨b, 0, none⟩)] w fun e w' => e = .returned v ∧ w = w' := by
  go_enter Tryz.func66, Tryz.ntmps66
  go_wp2_with fail
  go_ret
  exact ⟨rfl, rfl⟩
theorem gEnds (b : Nat) (w : World) (v : Value) (h : w.cell? ⟨b, 4, none⟩ = some v) : Calls Tryz.prog 69 #[.pointer (some ⟨b, 0, none⟩)] w fun e w' => e = .returned v ∧ w = w' := by
  go_enter Tryz.func69, Tryz.ntmps69
  go_wp2_with fail
  go_ret
  exact ⟨rfl, rfl⟩
theorem gEndss (b : Nat) (w : World) (v : Value) (h : w.cell? ⟨b, 4, none⟩ = some v) : Calls Tryz.prog 75 #[.pointer (some ⟨b, 0, none⟩)] w fun e w' => e = .returned v ∧ w = w' := by
  go_enter Tryz.func75, Tryz.ntmps75
  go_wp2_with fail
  go_ret
  exact ⟨rfl, rfl⟩
theorem gNumPoints (b : Nat) (w : World) (a : Option Addr) (n cap : Nat) (h : w.cell? ⟨b, 4, none⟩ = some (.slice a n cap)) : Calls Tryz.prog 70 #[.pointer (some ⟨b, 0, none⟩)] w fun e w' => e = .returned (.int .i64 (n : Nat)) ∧ w = w' := by
  go_enter Tryz.func70, Tryz.ntmps70
  go_wp2_with fail
  go_ret
  exact ⟨rfl, rfl⟩
theorem gNumLines (b : Nat) (w : World) (a : Option Addr) (n cap : Nat) (h : w.cell? ⟨b, 4, none⟩ = some (.slice a n cap)) : Calls Tryz.prog 72 #[.pointer (some ⟨b, 0, none⟩)] w fun e w' => e = .returned (.int .i64 (n : Nat)) ∧ w = w' := by
  go_enter Tryz.func72, Tryz.ntmps72
  go_wp2_with fail
  go_ret
  exact ⟨rfl, rfl⟩
theorem gNumPolys (b : Nat) (w : World) (a : Option Addr) (n cap : Nat) (h : w.cell? ⟨b, 4, none⟩ = some (.slice a n cap)) : Calls Tryz.prog 73 #[.pointer (some ⟨b, 0, none⟩)] w fun e w' => e = .returned (.int .i64 (n : Nat)) ∧ w = w' := by
  go_enter Tryz.func73, Tryz.ntmps73
  go_wp2_with fail
  go_ret
  exact ⟨rfl, rfl⟩
theorem gNumGeoms (b : Nat) (w : World) (a : Option Addr) (n cap : Nat) (h : w.cell? ⟨b, 1, none⟩ = some (.slice a n cap)) : Calls Tryz.prog 76 #[.pointer (some ⟨b, 0, none⟩)] w fun e w' => e = .returned (.int .i64 (n : Nat)) ∧ w = w' := by
  go_enter Tryz.func76, Tryz.ntmps76
  go_wp2_with fail
  go_ret
  exact ⟨rfl, rfl⟩
theorem gGeoms (b : Nat) (w : World) (v : Value) (h : w.cell? ⟨b, 1, none⟩ = some v) : Calls Tryz.prog 78 #[.pointer (some ⟨b, 0, none⟩)] w fun e w' => e = .returned v ∧ w = w' := by
  go_enter Tryz.func78, Tryz.ntmps78
  go_wp2_with fail
  go_ret
  exact ⟨rfl, rfl⟩
theorem gLayout (b : Nat) (w : World) (l : Int) (h : w.cell? ⟨b, 0, none⟩ = some (.int .i64 l)) : Calls Tryz.prog 156 #[.pointer (some ⟨b, 0, none⟩)] w fun e w' => e = .returned (.int .i64 l) ∧ w = w' := by
  go_enter Tryz.func156, Tryz.ntmps156
  go_wp2_with fail
  go_ret
  exact ⟨rfl, rfl⟩
end Go.Proofs.YtlmilelopajdiaaGreatDoor

/-
  Layouts: a geometry's own, a collection's out of its kids'.
-/
namespace Go.Proofs.YtlmilelopajdiaaGreatDoor
open Go.RowKit

/-- The layout that covers two. -/
def cover (m l : Int) : Int := if l = 2 then (if m = 3 then 4 else if m < l then l else m) else if l = 3 then (if m = 2 then 4 else if m < l then l else m) else if m < l then l else m
/-- The layout that an object tells. -/
def layoutT : Gm → Int
  | .mk k l _ _ _ _ kids => if k = 7 ∧ l = 0 then kids.attach.foldl (fun m g => cover m (layoutT g.1)) 0 else l
termination_by g => SizeOf.sizeOf g
decreasing_by
  have := List.sizeOf_lt_of_mem g.2
  simp only [Gm.mk.sizeOf_spec]
  omega
/-- Kinds from 1 to 8, all through. -/
def Kinds : Gm → Prop
  | .mk k _ _ _ _ _ kids => 1 ≤ k ∧ k ≤ 8 ∧ ∀ g (_h : g ∈ kids), Kinds g
termination_by g => SizeOf.sizeOf g
decreasing_by
  have := List.sizeOf_lt_of_mem _h
  simp only [Gm.mk.sizeOf_spec]
  omega
theorem layoutT_eq (k l s : Int) (f : List Nat) (e : List Int) (ee : List (List Int)) (kids : List Gm) : layoutT (.mk k l s f e ee kids) = if k = 7 ∧ l = 0 then kids.foldl (fun m g => cover m (layoutT g)) 0 else l := by
  rw [layoutT]
  congr 1
  rw [← List.foldl_attach (l := kids) (f := fun m g => cover m (layoutT g))]
theorem kinds_eq (k l s : Int) (f : List Nat) (e : List Int) (ee : List (List Int)) (kids : List Gm) : Kinds (.mk k l s f e ee kids) ↔ 1 ≤ k ∧ k ≤ 8 ∧ ∀ g, g ∈ kids → Kinds g := by
  rw [Kinds]
end Go.Proofs.YtlmilelopajdiaaGreatDoor
