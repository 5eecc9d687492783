/-
  The layout that a collection's object tells.
-/
import Derived.Test.YtlmilelopajdiaaGreatDoorUE0
namespace Go.Proofs.YtlmilelopajdiaaGreatDoor
open Go.RowKit

theorem foldl_snoc (kids : List Gm) (j : Nat) (hj : j < kids.length) : (kids.take (j + 1)).foldl (fun m g => cover m (layoutT g)) 0 = cover ((kids.take j).foldl (fun m g => cover m (layoutT g)) 0) (layoutT kids[j]) := by
  rw [List.take_add_one, List.getElem?_eq_getElem hj]
  show List.foldl _ 0 (kids.take j ++ [kids[j]]) = _
  rw [List.foldl_append]
  rfl
/-- What an object's address answers when it is asked for its layout. -/
def LayAns (w : World) (g : Gm) (b : Nat) : Prop := Calls Tryz.prog (if g.kind = 7 then 166 else 156) #[.pointer (some ⟨b, 0, none⟩)] w fun e w' => e = .returned (.int .i64 (layoutT g)) ∧ w = w'

set_option maxRecDepth 100000 in
set_option maxHeartbeats 4000000 in
theorem layColl (l s : Int) (f : List Nat) (e : List Int) (ee : List (List Int)) (kids : List Gm) (hK : Kinds (.mk 7 l s f e ee kids)) (ih : ∀ g, g ∈ kids → ∀ (w : World) (B b : Nat), Kinds g → Rep w B g (.iface (tyOf g.kind) (.pointer (some ⟨b, 0, none⟩))) → LayAns w g b)
    (w : World) (B b : Nat) (h : Rep w B (.mk 7 l s f e ee kids) (.iface 88 (.pointer (some ⟨b, 0, none⟩)))) :
    Calls Tryz.prog 166 #[.pointer (some ⟨b, 0, none⟩)] w fun en w' => en = .returned (.int .i64 (layoutT (.mk 7 l s f e ee kids))) ∧ w = w' := by
  rw [kinds_eq] at hK
  rw [layoutT_eq]
  unfold Rep at h
  obtain ⟨b', hb', hbB, c0, _, _, _, hk⟩ := h
  injection hb' with _ hb'
  injection hb' with hb'
  injection hb' with hb'
  injection hb' with hb' _
  subst hb'
  obtain ⟨v, c1, hlen, hv⟩ := hk rfl
  by_cases hl : l = 0
  · subst hl
    rw [if_pos ⟨rfl, rfl⟩]
    rcases hv with ⟨rfl, rfl⟩ | ⟨c, o, cap, rfl, hcB, hcap, hcap2, hcell⟩
    · go_enter Tryz.func166, Tryz.ntmps166
      go_wp2_with fail
      go_loopg [3, 21] 0 (fun g v3 v21 wr => v3 = .int .i64 0 ∧ v21 = .int .i64 0 ∧ w = wr)
      case atStart => exact ⟨rfl, rfl, rfl⟩
      case round =>
        obtain ⟨rfl, rfl, rfl⟩ := hrel
        go_wp2_with fail
        go_ret
        exact ⟨rfl, rfl⟩
    · have HK := Lib.hid hK.2.2
      have HI := Lib.hid ih
      obtain ⟨N, hN⟩ : ∃ N, N = kids.length := ⟨_, rfl⟩
      have HC := Lib.hid hcell
      have HN := Lib.hid hN
      rw [← hN] at hlen hcap c1
      clear hK ih hcell hN
      go_enter Tryz.func166, Tryz.ntmps166
      go_wp2_with fail
      go_loopg [3, 21] N (fun g v3 v21 wr => ∃ (j : Nat) (m : Int), j + g = N ∧ Hid (m = (kids.take j).foldl (fun m g => cover m (layoutT g)) 0) ∧ v3 = .int .i64 m ∧ v21 = .int .i64 j ∧ w = wr)
      case atStart => exact ⟨0, 0, by omega, Lib.hid (by simp), rfl, rfl, rfl⟩
      case round =>
        obtain ⟨j, m, hj, Hm, rfl, rfl, rfl⟩ := hrel
        by_cases hjN : j < N
        · obtain ⟨x, cx, hx⟩ := HC.out j (by rw [← HN.out]; exact hjN)
          obtain ⟨gj, hgj⟩ : ∃ gj, gj = kids[j]'(by rw [← HN.out]; exact hjN) := ⟨_, rfl⟩
          rw [← hgj] at hx
          have hgm : gj ∈ kids := by rw [hgj]; exact List.getElem_mem _
          have hkj := HK.out gj hgm
          obtain ⟨L, hL⟩ : ∃ L, L = layoutT gj := ⟨_, rfl⟩
          have HM : Hid (cover m L = (kids.take (j + 1)).foldl (fun m g => cover m (layoutT g)) 0) := Lib.hid (by rw [foldl_snoc kids j (by rw [← HN.out]; exact hjN), ← Hm.out, hL, hgj])
          obtain ⟨kj, lj, sj, fj, ej, eej, kidj, rfl⟩ : ∃ a b c d e f g, gj = Gm.mk a b c d e f g := by cases gj; exact ⟨_, _, _, _, _, _, _, rfl⟩
          obtain ⟨q, hxq⟩ : ∃ q, x = .iface (tyOf kj) (.pointer (some ⟨q, 0, none⟩)) := by
            unfold Rep at hx
            obtain ⟨q, hq, _⟩ := hx
            exact ⟨q, hq⟩
          subst hxq
          have HA := Lib.hid (HI.out _ hgm w B q hkj hx)
          have hk8 := (kinds_eq _ _ _ _ _ _ _).1 hkj
          have hk8' : kj = 1 ∨ kj = 2 ∨ kj = 3 ∨ kj = 4 ∨ kj = 5 ∨ kj = 6 ∨ kj = 7 ∨ kj = 8 := by omega
          unfold LayAns at HA
          rw [← hL] at HA
          have HK8 := Lib.hid hk8'
          have HT : Hid (tyOf kj = tyOf kj) := Lib.hid rfl
          clear hgj hgm hkj hL hk8 hk8' hx
          obtain ⟨T, hT⟩ : ∃ T, T = tyOf kj := ⟨_, rfl⟩
          rw [← hT] at cx
          have HT := Lib.hid hT
          clear hT
          go_upto_region 7 with (fail)
          go_cut [6] (fun v6 wx => v6 = .int .i64 L ∧ w = wx)
          case first =>
            rcases HK8.out with rfl | rfl | rfl | rfl | rfl | rfl | rfl | rfl
            all_goals
              obtain rfl : T = _ := HT.out
              go_wp2_with fail
              refine HA.out.mono ?_
              rintro en w' ⟨rfl, rfl⟩
              go_wp2_with fail
              go_meet
              exact ⟨rfl, rfl⟩
          case rest =>
            obtain ⟨rfl, rfl⟩ := hcut
            clear HA HI HC HK Hm HT
            by_cases h2 : L = 2
            · subst h2
              by_cases h3 : m = 3
              · subst h3
                have HX : Hid (4 = (kids.take (j + 1)).foldl (fun m g => cover m (layoutT g)) 0) := Lib.hid (by rw [← HM.out]; unfold cover; simp)
                go_wp2_with fail
                go_roundg (gk - 1)
                case measure => omega
                case rel => exact ⟨j + 1, 4, by omega, HX, rfl, by go_num, rfl⟩
              · have t3 : (m == 3) = false := beq_eq_false_iff_ne.2 h3
                by_cases h4 : m < 2
                · have t4 : decide (m < 2) = true := decide_eq_true h4
                  have HX : Hid (2 = (kids.take (j + 1)).foldl (fun m g => cover m (layoutT g)) 0) := Lib.hid (by rw [← HM.out]; unfold cover; simp [h3, h4])
                  go_wp2_with fail
                  go_roundg (gk - 1)
                  case measure => omega
                  case rel => exact ⟨j + 1, 2, by omega, HX, rfl, by go_num, rfl⟩
                · have t4 : decide (m < 2) = false := decide_eq_false h4
                  have HX : Hid (m = (kids.take (j + 1)).foldl (fun m g => cover m (layoutT g)) 0) := Lib.hid (by rw [← HM.out]; unfold cover; simp [h3, h4])
                  go_wp2_with fail
                  go_roundg (gk - 1)
                  case measure => omega
                  case rel => exact ⟨j + 1, m, by omega, HX, rfl, by go_num, rfl⟩
            · have t2 : (L == 2) = false := beq_eq_false_iff_ne.2 h2
              by_cases h5 : L = 3
              · subst h5
                by_cases h3 : m = 2
                · subst h3
                  have HX : Hid (4 = (kids.take (j + 1)).foldl (fun m g => cover m (layoutT g)) 0) := Lib.hid (by rw [← HM.out]; unfold cover; simp)
                  go_wp2_with fail
                  go_roundg (gk - 1)
                  case measure => omega
                  case rel => exact ⟨j + 1, 4, by omega, HX, rfl, by go_num, rfl⟩
                · have t3 : (m == 2) = false := beq_eq_false_iff_ne.2 h3
                  by_cases h4 : m < 3
                  · have t4 : decide (m < 3) = true := decide_eq_true h4
                    have HX : Hid (3 = (kids.take (j + 1)).foldl (fun m g => cover m (layoutT g)) 0) := Lib.hid (by rw [← HM.out]; unfold cover; simp [h3, h4])
                    go_wp2_with fail
                    go_roundg (gk - 1)
                    case measure => omega
                    case rel => exact ⟨j + 1, 3, by omega, HX, rfl, by go_num, rfl⟩
                  · have t4 : decide (m < 3) = false := decide_eq_false h4
                    have HX : Hid (m = (kids.take (j + 1)).foldl (fun m g => cover m (layoutT g)) 0) := Lib.hid (by rw [← HM.out]; unfold cover; simp [h3, h4])
                    go_wp2_with fail
                    go_roundg (gk - 1)
                    case measure => omega
                    case rel => exact ⟨j + 1, m, by omega, HX, rfl, by go_num, rfl⟩
              · have t3 : (L == 3) = false := beq_eq_false_iff_ne.2 h5
                by_cases h4 : m < L
                · have t4 : decide (m < L) = true := decide_eq_true h4
                  have HX : Hid (L = (kids.take (j + 1)).foldl (fun m g => cover m (layoutT g)) 0) := Lib.hid (by rw [← HM.out]; unfold cover; simp [h2, h5, h4])
                  go_wp2_with fail
                  go_roundg (gk - 1)
                  case measure => omega
                  case rel => exact ⟨j + 1, L, by omega, HX, rfl, by go_num, rfl⟩
                · have t4 : decide (m < L) = false := decide_eq_false h4
                  have HX : Hid (m = (kids.take (j + 1)).foldl (fun m g => cover m (layoutT g)) 0) := Lib.hid (by rw [← HM.out]; unfold cover; simp [h2, h5, h4])
                  go_wp2_with fail
                  go_roundg (gk - 1)
                  case measure => omega
                  case rel => exact ⟨j + 1, m, by omega, HX, rfl, by go_num, rfl⟩
        · obtain rfl : j = N := by omega
          have HE : Hid (m = kids.foldl (fun m g => cover m (layoutT g)) 0) := Lib.hid (by rw [Hm.out, HN.out, List.take_length])
          go_wp2_with fail
          go_ret
          exact ⟨by rw [← HE.out]; rfl, rfl⟩
  · have hl2 : (l != 0) = true := by simp [hl]
    rw [if_neg (fun h => hl h.2)]
    go_enter Tryz.func166, Tryz.ntmps166
    go_wp2_with fail
    go_ret
    exact ⟨rfl, rfl⟩
end Go.Proofs.YtlmilelopajdiaaGreatDoor

/-
  Every object's layout; whether an object is empty.
-/
namespace Go.Proofs.YtlmilelopajdiaaGreatDoor
open Go.RowKit

theorem rep_cells {w : World} {B : Nat} {k l s : Int} {f : List Nat} {e : List Int} {ee : List (List Int)} {kids : List Gm} {b : Nat} (h : Rep w B (.mk k l s f e ee kids) (.iface (tyOf k) (.pointer (some ⟨b, 0, none⟩)))) : b < B ∧ w.cell? ⟨b, 0, none⟩ = some (.int .i64 l) ∧
    (k ≠ 7 → ∃ v, w.cell? ⟨b, 2, none⟩ = some v ∧ FRow w B v f) ∧
    (k = 3 ∨ k = 4 ∨ k = 5 → ∃ v, w.cell? ⟨b, 4, none⟩ = some v ∧ IRow w B v (nats e)) ∧
    (k = 6 → ∃ v, w.cell? ⟨b, 4, none⟩ = some v ∧ SRow w B v (ee.map nats)) ∧
    (k = 7 → ∃ v, w.cell? ⟨b, 1, none⟩ = some v ∧ kids.length ≤ 1000000000 ∧ ((kids = [] ∧ v = .slice none 0 0) ∨ ∃ c o cap, v = .slice (some ⟨c, o, none⟩) kids.length cap ∧ c < B ∧ kids.length ≤ cap ∧ cap ≤ 9223372036854775807 ∧
      ∀ (j : Nat) (hj : j < kids.length), ∃ x, w.cell? ⟨c, o + j, none⟩ = some x ∧ Rep w B kids[j] x)) := by
  unfold Rep at h
  obtain ⟨b', hb', r⟩ := h
  injection hb' with _ hb'
  injection hb' with hb'
  injection hb' with hb'
  injection hb' with hb' _
  subst hb'
  exact r
theorem layAns : ∀ (g : Gm) (w : World) (B b : Nat), Kinds g → Rep w B g (.iface (tyOf g.kind) (.pointer (some ⟨b, 0, none⟩))) → LayAns w g b := by
  intro g
  induction g using Gm.ind with
  | h k l s f e ee kids ih =>
    intro w B b hK h
    unfold LayAns
    by_cases h7 : k = 7
    · subst h7
      exact layColl l s f e ee kids hK ih w B b h
    · have hk : (Gm.mk k l s f e ee kids).kind ≠ 7 := h7
      rw [if_neg hk, layoutT_eq, if_neg (fun h => h7 h.1)]
      exact gLayout b w l (rep_cells h).2.1
end Go.Proofs.YtlmilelopajdiaaGreatDoor

/-
  What a geometry must be for its text; the text; an empty collection's answer.
-/
namespace Go.Proofs.YtlmilelopajdiaaGreatDoor
open Go.RowKit

/-- What the numbers of a geometry that is no collection must be. -/
def FitF (k l : Int) (f : List Nat) (e : List Int) (ee : List (List Int)) : Prop :=
  1 ≤ l ∧ l ≤ 9 ∧ f.length % (stride l).toNat = 0 ∧
  (k = 1 → f = [] ∨ f.length = (stride l).toNat) ∧
  (k = 3 ∨ k = 4 ∨ k = 5 → (∀ x, x < (nats e).length → (nats e).getD x 0 ≤ f.length) ∧ (k ≠ 4 → ∀ x, x < (nats e).length → ((nats e).getD x 0 - stAt 0 (nats e) x) % (stride l).toNat = 0) ∧ (k = 3 → f ≠ [] → e ≠ [])) ∧
  (k = 6 → (∀ j, stE (ee.map nats) j ≤ 1000000000) ∧ (∀ j, j < (ee.map nats).length → ∀ x, x < ((ee.map nats).getD j []).length → ((ee.map nats).getD j []).getD x 0 ≤ f.length) ∧
    (∀ j, j < (ee.map nats).length → ∀ x, x < ((ee.map nats).getD j []).length → (((ee.map nats).getD j []).getD x 0 - stAt (stE (ee.map nats) j) ((ee.map nats).getD j []) x) % (stride l).toNat = 0))
/-- What a geometry must be. -/
def Fit : Gm → Prop
  | .mk k l _ f e ee kids => 1 ≤ k ∧ k ≤ 8 ∧ (k ≠ 7 → FitF k l f e ee ∧ kids = []) ∧ (k = 7 → 0 ≤ l ∧ l ≤ 9) ∧ ∀ g (_h : g ∈ kids), Fit g
termination_by g => SizeOf.sizeOf g
decreasing_by
  have := List.sizeOf_lt_of_mem _h
  simp only [Gm.mk.sizeOf_spec]
  omega
theorem fit_eq (k l s : Int) (f : List Nat) (e : List Int) (ee : List (List Int)) (kids : List Gm) : Fit (.mk k l s f e ee kids) ↔ 1 ≤ k ∧ k ≤ 8 ∧ (k ≠ 7 → FitF k l f e ee ∧ kids = []) ∧ (k = 7 → 0 ≤ l ∧ l ≤ 9) ∧ ∀ g, g ∈ kids → Fit g := by
  rw [Fit]
theorem fit_kinds : ∀ g, Fit g → Kinds g := by
  intro g
  induction g using Gm.ind with
  | h k l s f e ee kids ih =>
    intro h
    rw [fit_eq] at h
    rw [kinds_eq]
    exact ⟨h.1, h.2.1, fun g hg => ih g hg (h.2.2.2.2 g hg)⟩
theorem cover_bd (m l : Int) (hm : 0 ≤ m) (hl : 0 ≤ l) (hm9 : m ≤ 9) (hl9 : l ≤ 9) : 0 ≤ cover m l ∧ cover m l ≤ 9 ∧ (cover m l = 0 → m = 0 ∧ l = 0) := by
  unfold cover
  split
  · split
    · omega
    · split <;> omega
  · split
    · split
      · omega
      · split <;> omega
    · split <;> omega
theorem cover_fold (F : Gm → Int) : ∀ (L : List Gm) (m : Int), 0 ≤ m → m ≤ 9 → (∀ x, x ∈ L → 0 ≤ F x ∧ F x ≤ 9) → 0 ≤ L.foldl (fun m g => cover m (F g)) m ∧ L.foldl (fun m g => cover m (F g)) m ≤ 9 ∧ (L.foldl (fun m g => cover m (F g)) m = 0 → m = 0 ∧ ∀ x, x ∈ L → F x = 0) := by
  intro L
  induction L with
  | nil => intro m h0 h9 _; exact ⟨h0, h9, fun h => ⟨h, fun x hx => by simp at hx⟩⟩
  | cons a t ih =>
    intro m h0 h9 hF
    have ha := hF a (by simp)
    have hc := cover_bd m (F a) h0 ha.1 h9 ha.2
    have hr := ih (cover m (F a)) hc.1 hc.2.1 (fun x hx => hF x (by simp [hx]))
    refine ⟨hr.1, hr.2.1, fun h => ?_⟩
    have h2 := hr.2.2 h
    have h3 := hc.2.2 h2.1
    refine ⟨h3.1, fun x hx => ?_⟩
    rcases List.mem_cons.1 hx with rfl | hx
    · exact h3.2
    · exact h2.2 x hx
theorem fit_layout : ∀ g, Fit g → 0 ≤ layoutT g ∧ layoutT g ≤ 9 ∧ (layoutT g = 0 → g.kind = 7 ∧ g.layout = 0 ∧ ∀ x, x ∈ g.kids → layoutT x = 0) := by
  intro g
  induction g using Gm.ind with
  | h k l s f e ee kids ih =>
    intro h
    rw [fit_eq] at h
    rw [layoutT_eq]
    show _ ∧ _ ∧ (_ → k = 7 ∧ l = 0 ∧ ∀ x, x ∈ kids → _)
    by_cases h7 : k = 7
    · have hl := h.2.2.2.1 h7
      by_cases h0 : l = 0
      · rw [if_pos ⟨h7, h0⟩]
        have := cover_fold layoutT kids 0 (by omega) (by omega) (fun x hx => ⟨(ih x hx (h.2.2.2.2 x hx)).1, (ih x hx (h.2.2.2.2 x hx)).2.1⟩)
        exact ⟨this.1, this.2.1, fun hz => ⟨h7, h0, (this.2.2 hz).2⟩⟩
      · rw [if_neg (fun h => h0 h.2)]
        exact ⟨hl.1, hl.2, fun h => absurd h h0⟩
    · have hl := (h.2.2.1 h7).1
      rw [if_neg (fun h => h7 h.1)]
      exact ⟨by have := hl.1; omega, hl.2.1, fun h => by have := hl.1; omega⟩

def nameT (k : Int) : List UInt8 := if k = 1 then [80, 79, 73, 78, 84, 32] else if k = 2 then [76, 73, 78, 69, 83, 84, 82, 73, 78, 71, 32] else if k = 8 then [76, 73, 78, 69, 83, 84, 82, 73, 78, 71, 32]
  else if k = 3 then [80, 79, 76, 89, 71, 79, 78, 32] else if k = 4 then [77, 85, 76, 84, 73, 80, 79, 73, 78, 84, 32] else if k = 5 then [77, 85, 76, 84, 73, 76, 73, 78, 69, 83, 84, 82, 73, 78, 71, 32]
  else if k = 6 then [77, 85, 76, 84, 73, 80, 79, 76, 89, 71, 79, 78, 32] else [71, 69, 79, 77, 69, 84, 82, 89, 67, 79, 76, 76, 69, 67, 84, 73, 79, 78, 32]
def tagT (l : Int) : List UInt8 := if l = 2 then [90, 32] else if l = 3 then [77, 32] else if l = 4 then [90, 77, 32] else []
/-- What stands behind the name of a geometry that is no collection. -/
noncomputable def flatT (dg k l : Int) (f : List Nat) (e : List Int) (ee : List (List Int)) : List UInt8 :=
  if k = 1 then (if f = [] then EMPTY else [40] ++ placeS dg f ++ [41])
  else if k = 2 then (if f = [] then EMPTY else lineS dg (stride l).toNat f)
  else if k = 8 then (if f = [] then EMPTY else lineS dg (stride l).toNat f)
  else if k = 3 then (if f = [] then EMPTY else partsT (lineS dg (stride l).toNat) f 0 (nats e))
  else if k = 4 then (if e = [] then EMPTY else partsT (placeS dg) f 0 (nats e))
  else if k = 5 then (if e = [] then EMPTY else partsT (lineS dg (stride l).toNat) f 0 (nats e))
  else (if ee = [] then EMPTY else areasT dg (stride l).toNat f (ee.map nats))
/-- Texts with a comma and a blank between them, in brackets, or EMPTY. -/
def kidsT (L : List (List UInt8)) : List UInt8 := if L = [] then EMPTY else [40] ++ joinN (fun i => L.getD i []) L.length ++ [41]
/-- A geometry's text. -/
noncomputable def textT (dg : Int) : Gm → List UInt8
  | .mk k l s f e ee kids => nameT k ++ tagT (layoutT (.mk k l s f e ee kids)) ++ (if k = 7 then kidsT (kids.attach.map fun g => textT dg g.1) else flatT dg k l f e ee)
termination_by g => SizeOf.sizeOf g
decreasing_by
  have := List.sizeOf_lt_of_mem g.2
  simp only [Gm.mk.sizeOf_spec]
  omega
theorem textT_eq (dg k l s : Int) (f : List Nat) (e : List Int) (ee : List (List Int)) (kids : List Gm) : textT dg (.mk k l s f e ee kids) = nameT k ++ tagT (layoutT (.mk k l s f e ee kids)) ++ (if k = 7 then kidsT (kids.map (textT dg)) else flatT dg k l f e ee) := by
  rw [textT]
  have h : kids.attach.map (fun g => textT dg g.val) = kids.map (textT dg) := by simp
  rw [h]
/-- A geometry has a text: no layout above 4. -/
def okT : Gm → Prop
  | .mk k l s f e ee kids => layoutT (.mk k l s f e ee kids) ≤ 4 ∧ ∀ g (_h : g ∈ kids), okT g
termination_by g => SizeOf.sizeOf g
decreasing_by
  have := List.sizeOf_lt_of_mem _h
  simp only [Gm.mk.sizeOf_spec]
  omega
theorem okT_eq (k l s : Int) (f : List Nat) (e : List Int) (ee : List (List Int)) (kids : List Gm) : okT (.mk k l s f e ee kids) ↔ layoutT (.mk k l s f e ee kids) ≤ 4 ∧ ∀ g, g ∈ kids → okT g := by
  rw [okT]

theorem FRow.lit {w : World} {B : Nat} {v : Value} {xs : List Nat} (h : FRow w B v xs) : ∃ a cap, v = .slice a xs.length cap := by
  obtain ⟨_, _, ⟨rfl, rfl⟩ | ⟨b, o, cap, rfl, _⟩⟩ := h
  · exact ⟨none, 0, rfl⟩
  · exact ⟨_, cap, rfl⟩
theorem IRow.lit {w : World} {B : Nat} {v : Value} {xs : List Nat} (h : IRow w B v xs) : ∃ a cap, v = .slice a xs.length cap := by
  obtain ⟨_, _, ⟨rfl, rfl⟩ | ⟨b, o, cap, rfl, _⟩⟩ := h
  · exact ⟨none, 0, rfl⟩
  · exact ⟨_, cap, rfl⟩
theorem SRow.lit {w : World} {B : Nat} {v : Value} {xs : List (List Nat)} (h : SRow w B v xs) : ∃ a cap, v = .slice a xs.length cap := by
  obtain ⟨_, ⟨rfl, rfl⟩ | ⟨b, o, cap, rfl, _⟩⟩ := h
  · exact ⟨none, 0, rfl⟩
  · exact ⟨_, cap, rfl⟩
theorem stride_bd (l : Int) (h1 : 1 ≤ l) (h9 : l ≤ 9) : stride l = ((stride l).toNat : Int) ∧ 1 ≤ (stride l).toNat ∧ (stride l).toNat ≤ 1000 := by
  unfold stride; split
  · omega
  · split
    · omega
    · split
      · omega
      · split
        · omega
        · split <;> omega
theorem head_len (k l : Int) : (nameT k ++ tagT l).length ≤ 40 := by
  have h1 : (nameT k).length ≤ 30 := by
    unfold nameT
    repeat' split
    all_goals simp
  have h2 : (tagT l).length ≤ 5 := by
    unfold tagT
    repeat' split
    all_goals simp
  rw [List.length_append]; omega

theorem as62_62 (v : Value) (w : World) : (Instr.typeAssert (.iface 62 v) 45 62 true).run Tryz.prog w = .ok (.tuple #[v, .bool true]) w := by kernel_rfl
theorem as62_65 (v : Value) (w : World) : (Instr.typeAssert (.iface 62 v) 45 65 true).run Tryz.prog w = .ok (.tuple #[.pointer none, .bool false]) w := by kernel_rfl
theorem as62_68 (v : Value) (w : World) : (Instr.typeAssert (.iface 62 v) 45 68 true).run Tryz.prog w = .ok (.tuple #[.pointer none, .bool false]) w := by kernel_rfl
theorem as62_71 (v : Value) (w : World) : (Instr.typeAssert (.iface 62 v) 45 71 true).run Tryz.prog w = .ok (.tuple #[.pointer none, .bool false]) w := by kernel_rfl
theorem as62_75 (v : Value) (w : World) : (Instr.typeAssert (.iface 62 v) 45 75 true).run Tryz.prog w = .ok (.tuple #[.pointer none, .bool false]) w := by kernel_rfl
theorem as62_81 (v : Value) (w : World) : (Instr.typeAssert (.iface 62 v) 45 81 true).run Tryz.prog w = .ok (.tuple #[.pointer none, .bool false]) w := by kernel_rfl
theorem as62_84 (v : Value) (w : World) : (Instr.typeAssert (.iface 62 v) 45 84 true).run Tryz.prog w = .ok (.tuple #[.pointer none, .bool false]) w := by kernel_rfl
theorem as62_88 (v : Value) (w : World) : (Instr.typeAssert (.iface 62 v) 45 88 true).run Tryz.prog w = .ok (.tuple #[.pointer none, .bool false]) w := by kernel_rfl
theorem as65_62 (v : Value) (w : World) : (Instr.typeAssert (.iface 65 v) 45 62 true).run Tryz.prog w = .ok (.tuple #[.pointer none, .bool false]) w := by kernel_rfl
theorem as65_65 (v : Value) (w : World) : (Instr.typeAssert (.iface 65 v) 45 65 true).run Tryz.prog w = .ok (.tuple #[v, .bool true]) w := by kernel_rfl
theorem as65_68 (v : Value) (w : World) : (Instr.typeAssert (.iface 65 v) 45 68 true).run Tryz.prog w = .ok (.tuple #[.pointer none, .bool false]) w := by kernel_rfl
theorem as65_71 (v : Value) (w : World) : (Instr.typeAssert (.iface 65 v) 45 71 true).run Tryz.prog w = .ok (.tuple #[.pointer none, .bool false]) w := by kernel_rfl
theorem as65_75 (v : Value) (w : World) : (Instr.typeAssert (.iface 65 v) 45 75 true).run Tryz.prog w = .ok (.tuple #[.pointer none, .bool false]) w := by kernel_rfl
theorem as65_81 (v : Value) (w : World) : (Instr.typeAssert (.iface 65 v) 45 81 true).run Tryz.prog w = .ok (.tuple #[.pointer none, .bool false]) w := by kernel_rfl
theorem as65_84 (v : Value) (w : World) : (Instr.typeAssert (.iface 65 v) 45 84 true).run Tryz.prog w = .ok (.tuple #[.pointer none, .bool false]) w := by kernel_rfl
theorem as65_88 (v : Value) (w : World) : (Instr.typeAssert (.iface 65 v) 45 88 true).run Tryz.prog w = .ok (.tuple #[.pointer none, .bool false]) w := by kernel_rfl
theorem as68_62 (v : Value) (w : World) : (Instr.typeAssert (.iface 68 v) 45 62 true).run Tryz.prog w = .ok (.tuple #[.pointer none, .bool false]) w := by kernel_rfl
theorem as68_65 (v : Value) (w : World) : (Instr.typeAssert (.iface 68 v) 45 65 true).run Tryz.prog w = .ok (.tuple #[.pointer none, .bool false]) w := by kernel_rfl
theorem as68_68 (v : Value) (w : World) : (Instr.typeAssert (.iface 68 v) 45 68 true).run Tryz.prog w = .ok (.tuple #[v, .bool true]) w := by kernel_rfl
theorem as68_71 (v : Value) (w : World) : (Instr.typeAssert (.iface 68 v) 45 71 true).run Tryz.prog w = .ok (.tuple #[.pointer none, .bool false]) w := by kernel_rfl
theorem as68_75 (v : Value) (w : World) : (Instr.typeAssert (.iface 68 v) 45 75 true).run Tryz.prog w = .ok (.tuple #[.pointer none, .bool false]) w := by kernel_rfl
theorem as68_81 (v : Value) (w : World) : (Instr.typeAssert (.iface 68 v) 45 81 true).run Tryz.prog w = .ok (.tuple #[.pointer none, .bool false]) w := by kernel_rfl
theorem as68_84 (v : Value) (w : World) : (Instr.typeAssert (.iface 68 v) 45 84 true).run Tryz.prog w = .ok (.tuple #[.pointer none, .bool false]) w := by kernel_rfl
theorem as68_88 (v : Value) (w : World) : (Instr.typeAssert (.iface 68 v) 45 88 true).run Tryz.prog w = .ok (.tuple #[.pointer none, .bool false]) w := by kernel_rfl
theorem as71_62 (v : Value) (w : World) : (Instr.typeAssert (.iface 71 v) 45 62 true).run Tryz.prog w = .ok (.tuple #[.pointer none, .bool false]) w := by kernel_rfl
theorem as71_65 (v : Value) (w : World) : (Instr.typeAssert (.iface 71 v) 45 65 true).run Tryz.prog w = .ok (.tuple #[.pointer none, .bool false]) w := by kernel_rfl
theorem as71_68 (v : Value) (w : World) : (Instr.typeAssert (.iface 71 v) 45 68 true).run Tryz.prog w = .ok (.tuple #[.pointer none, .bool false]) w := by kernel_rfl
theorem as71_71 (v : Value) (w : World) : (Instr.typeAssert (.iface 71 v) 45 71 true).run Tryz.prog w = .ok (.tuple #[v, .bool true]) w := by kernel_rfl
theorem as71_75 (v : Value) (w : World) : (Instr.typeAssert (.iface 71 v) 45 75 true).run Tryz.prog w = .ok (.tuple #[.pointer none, .bool false]) w := by kernel_rfl
theorem as71_81 (v : Value) (w : World) : (Instr.typeAssert (.iface 71 v) 45 81 true).run Tryz.prog w = .ok (.tuple #[.pointer none, .bool false]) w := by kernel_rfl
theorem as71_84 (v : Value) (w : World) : (Instr.typeAssert (.iface 71 v) 45 84 true).run Tryz.prog w = .ok (.tuple #[.pointer none, .bool false]) w := by kernel_rfl
theorem as71_88 (v : Value) (w : World) : (Instr.typeAssert (.iface 71 v) 45 88 true).run Tryz.prog w = .ok (.tuple #[.pointer none, .bool false]) w := by kernel_rfl
theorem as75_62 (v : Value) (w : World) : (Instr.typeAssert (.iface 75 v) 45 62 true).run Tryz.prog w = .ok (.tuple #[.pointer none, .bool false]) w := by kernel_rfl
theorem as75_65 (v : Value) (w : World) : (Instr.typeAssert (.iface 75 v) 45 65 true).run Tryz.prog w = .ok (.tuple #[.pointer none, .bool false]) w := by kernel_rfl
theorem as75_68 (v : Value) (w : World) : (Instr.typeAssert (.iface 75 v) 45 68 true).run Tryz.prog w = .ok (.tuple #[.pointer none, .bool false]) w := by kernel_rfl
theorem as75_71 (v : Value) (w : World) : (Instr.typeAssert (.iface 75 v) 45 71 true).run Tryz.prog w = .ok (.tuple #[.pointer none, .bool false]) w := by kernel_rfl
theorem as75_75 (v : Value) (w : World) : (Instr.typeAssert (.iface 75 v) 45 75 true).run Tryz.prog w = .ok (.tuple #[v, .bool true]) w := by kernel_rfl
theorem as75_81 (v : Value) (w : World) : (Instr.typeAssert (.iface 75 v) 45 81 true).run Tryz.prog w = .ok (.tuple #[.pointer none, .bool false]) w := by kernel_rfl
theorem as75_84 (v : Value) (w : World) : (Instr.typeAssert (.iface 75 v) 45 84 true).run Tryz.prog w = .ok (.tuple #[.pointer none, .bool false]) w := by kernel_rfl
theorem as75_88 (v : Value) (w : World) : (Instr.typeAssert (.iface 75 v) 45 88 true).run Tryz.prog w = .ok (.tuple #[.pointer none, .bool false]) w := by kernel_rfl
theorem as81_62 (v : Value) (w : World) : (Instr.typeAssert (.iface 81 v) 45 62 true).run Tryz.prog w = .ok (.tuple #[.pointer none, .bool false]) w := by kernel_rfl
theorem as81_65 (v : Value) (w : World) : (Instr.typeAssert (.iface 81 v) 45 65 true).run Tryz.prog w = .ok (.tuple #[.pointer none, .bool false]) w := by kernel_rfl
theorem as81_68 (v : Value) (w : World) : (Instr.typeAssert (.iface 81 v) 45 68 true).run Tryz.prog w = .ok (.tuple #[.pointer none, .bool false]) w := by kernel_rfl
theorem as81_71 (v : Value) (w : World) : (Instr.typeAssert (.iface 81 v) 45 71 true).run Tryz.prog w = .ok (.tuple #[.pointer none, .bool false]) w := by kernel_rfl
theorem as81_75 (v : Value) (w : World) : (Instr.typeAssert (.iface 81 v) 45 75 true).run Tryz.prog w = .ok (.tuple #[.pointer none, .bool false]) w := by kernel_rfl
theorem as81_81 (v : Value) (w : World) : (Instr.typeAssert (.iface 81 v) 45 81 true).run Tryz.prog w = .ok (.tuple #[v, .bool true]) w := by kernel_rfl
theorem as81_84 (v : Value) (w : World) : (Instr.typeAssert (.iface 81 v) 45 84 true).run Tryz.prog w = .ok (.tuple #[.pointer none, .bool false]) w := by kernel_rfl
theorem as81_88 (v : Value) (w : World) : (Instr.typeAssert (.iface 81 v) 45 88 true).run Tryz.prog w = .ok (.tuple #[.pointer none, .bool false]) w := by kernel_rfl
theorem as84_62 (v : Value) (w : World) : (Instr.typeAssert (.iface 84 v) 45 62 true).run Tryz.prog w = .ok (.tuple #[.pointer none, .bool false]) w := by kernel_rfl
theorem as84_65 (v : Value) (w : World) : (Instr.typeAssert (.iface 84 v) 45 65 true).run Tryz.prog w = .ok (.tuple #[.pointer none, .bool false]) w := by kernel_rfl
theorem as84_68 (v : Value) (w : World) : (Instr.typeAssert (.iface 84 v) 45 68 true).run Tryz.prog w = .ok (.tuple #[.pointer none, .bool false]) w := by kernel_rfl
theorem as84_71 (v : Value) (w : World) : (Instr.typeAssert (.iface 84 v) 45 71 true).run Tryz.prog w = .ok (.tuple #[.pointer none, .bool false]) w := by kernel_rfl
theorem as84_75 (v : Value) (w : World) : (Instr.typeAssert (.iface 84 v) 45 75 true).run Tryz.prog w = .ok (.tuple #[.pointer none, .bool false]) w := by kernel_rfl
theorem as84_81 (v : Value) (w : World) : (Instr.typeAssert (.iface 84 v) 45 81 true).run Tryz.prog w = .ok (.tuple #[.pointer none, .bool false]) w := by kernel_rfl
theorem as84_84 (v : Value) (w : World) : (Instr.typeAssert (.iface 84 v) 45 84 true).run Tryz.prog w = .ok (.tuple #[v, .bool true]) w := by kernel_rfl
theorem as84_88 (v : Value) (w : World) : (Instr.typeAssert (.iface 84 v) 45 88 true).run Tryz.prog w = .ok (.tuple #[.pointer none, .bool false]) w := by kernel_rfl
theorem as88_62 (v : Value) (w : World) : (Instr.typeAssert (.iface 88 v) 45 62 true).run Tryz.prog w = .ok (.tuple #[.pointer none, .bool false]) w := by kernel_rfl
theorem as88_65 (v : Value) (w : World) : (Instr.typeAssert (.iface 88 v) 45 65 true).run Tryz.prog w = .ok (.tuple #[.pointer none, .bool false]) w := by kernel_rfl
theorem as88_68 (v : Value) (w : World) : (Instr.typeAssert (.iface 88 v) 45 68 true).run Tryz.prog w = .ok (.tuple #[.pointer none, .bool false]) w := by kernel_rfl
theorem as88_71 (v : Value) (w : World) : (Instr.typeAssert (.iface 88 v) 45 71 true).run Tryz.prog w = .ok (.tuple #[.pointer none, .bool false]) w := by kernel_rfl
theorem as88_75 (v : Value) (w : World) : (Instr.typeAssert (.iface 88 v) 45 75 true).run Tryz.prog w = .ok (.tuple #[.pointer none, .bool false]) w := by kernel_rfl
theorem as88_81 (v : Value) (w : World) : (Instr.typeAssert (.iface 88 v) 45 81 true).run Tryz.prog w = .ok (.tuple #[.pointer none, .bool false]) w := by kernel_rfl
theorem as88_84 (v : Value) (w : World) : (Instr.typeAssert (.iface 88 v) 45 84 true).run Tryz.prog w = .ok (.tuple #[.pointer none, .bool false]) w := by kernel_rfl
theorem as88_88 (v : Value) (w : World) : (Instr.typeAssert (.iface 88 v) 45 88 true).run Tryz.prog w = .ok (.tuple #[v, .bool true]) w := by kernel_rfl

def EmptyAns (g : Gm) : Prop := ∀ (w : World) (B b : Nat), Rep w B g (.iface 88 (.pointer (some ⟨b, 0, none⟩))) → Calls Tryz.prog 61 #[.pointer (some ⟨b, 0, none⟩)] w fun e w' => e = .returned (.bool true) ∧ w = w'

set_option maxRecDepth 100000 in
set_option maxHeartbeats 4000000 in
theorem emptyColl (l s : Int) (f : List Nat) (e : List Int) (ee : List (List Int)) (kids : List Gm) (ih : ∀ g, g ∈ kids → g.kind = 7 ∧ EmptyAns g) : EmptyAns (.mk 7 l s f e ee kids) := by
  intro w B b h
  obtain ⟨hbB, c0, _, _, _, hk⟩ := rep_cells (k := 7) h
  obtain ⟨v, c1, hlen, hv⟩ := hk rfl
  clear hk h c0
  rcases hv with ⟨rfl, rfl⟩ | ⟨c, o, cap, rfl, hcB, hcap, hcap2, hcell⟩
  · clear ih
    go_enter Tryz.func61, Tryz.ntmps61
    go_wp2_with fail
    go_loopg [10] 0 (fun g v10 wr => v10 = .int .i64 0 ∧ w = wr)
    case atStart => exact ⟨rfl, rfl⟩
    case round =>
      obtain ⟨rfl, rfl⟩ := hrel
      go_wp2_with fail
      go_ret
      exact ⟨rfl, rfl⟩
  · have HI := Lib.hid ih
    obtain ⟨N, hN⟩ : ∃ N, N = kids.length := ⟨_, rfl⟩
    have HC := Lib.hid hcell
    have HN := Lib.hid hN
    rw [← hN] at hlen hcap c1
    clear ih hcell hN
    go_enter Tryz.func61, Tryz.ntmps61
    go_wp2_with fail
    go_loopg [10] N (fun g v10 wr => ∃ j : Nat, j + g = N ∧ v10 = .int .i64 j ∧ w = wr)
    case atStart => exact ⟨0, by omega, rfl, rfl⟩
    case round =>
      obtain ⟨j, hj, rfl, rfl⟩ := hrel
      by_cases hjN : j < N
      · obtain ⟨x, cx, hx⟩ := HC.out j (by rw [← HN.out]; exact hjN)
        obtain ⟨gj, hgj⟩ : ∃ gj, gj = kids[j]'(by rw [← HN.out]; exact hjN) := ⟨_, rfl⟩
        rw [← hgj] at hx
        have hgm : gj ∈ kids := by rw [hgj]; exact List.getElem_mem _
        obtain ⟨kj, lj, sj, fj, ej, eej, kidj, rfl⟩ : ∃ a b c d e f g, gj = Gm.mk a b c d e f g := by cases gj; exact ⟨_, _, _, _, _, _, _, rfl⟩
        obtain ⟨k7, ha⟩ := HI.out _ hgm
        obtain rfl : kj = 7 := k7
        obtain ⟨q, hxq⟩ : ∃ q, x = .iface 88 (.pointer (some ⟨q, 0, none⟩)) := by
          unfold Rep at hx
          obtain ⟨q, hq, _⟩ := hx
          exact ⟨q, hq⟩
        subst hxq
        have HA := Lib.hid (ha w B q hx)
        clear hgj hgm hx ha HI HC HN
        go_wp2_with fail
        refine HA.out.mono ?_
        rintro en w' ⟨rfl, rfl⟩
        go_wp2_with fail
        go_roundg (gk - 1)
        case measure => omega
        case rel => exact ⟨j + 1, by omega, by go_num, rfl⟩
      · obtain rfl : j = N := by omega
        clear HI HC HN
        go_wp2_with fail
        go_ret
        exact ⟨rfl, rfl⟩
theorem emptyAns : ∀ g, Fit g → layoutT g = 0 → EmptyAns g := by
  intro g
  induction g using Gm.ind with
  | h k l s f e ee kids ih =>
    intro hf h0
    obtain ⟨h7, _, hk⟩ := (fit_layout _ hf).2.2 h0
    obtain rfl : k = 7 := h7
    rw [fit_eq] at hf
    refine emptyColl l s f e ee kids fun g hg => ?_
    have hfg := hf.2.2.2.2 g hg
    exact ⟨((fit_layout g hfg).2.2 (hk g hg)).1, ih g hg hfg (hk g hg)⟩
end Go.Proofs.YtlmilelopajdiaaGreatDoor
