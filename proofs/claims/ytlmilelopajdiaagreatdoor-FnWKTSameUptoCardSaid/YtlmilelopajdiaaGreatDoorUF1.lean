/-
  Builder.String; Encoder.write at every object.
-/
import Derived.Test.YtlmilelopajdiaaGreatDoorUE7
import Derived.Test.YtlmilelopajdiaaGreatDoorUE8
import Derived.Test.YtlmilelopajdiaaGreatDoorUE9
import Derived.Test.YtlmilelopajdiaaGreatDoorUF0
namespace Go.Proofs.YtlmilelopajdiaaGreatDoor
open Go.RowKit

set_option maxRecDepth 100000 in
set_option maxHeartbeats 2000000 in
theorem builderString (B b : Nat) (l : List UInt8) (w : World) (h : BB w B b l) (h0 : l ≠ []) :
    Calls Tryz.prog 54 #[.pointer (some ⟨b, 0, none⟩)] w fun e w' => e = .returned (.string ⟨l.toArray⟩) ∧ Below B w w' := by
  obtain ⟨p, hB, v, hbk, hown, hne⟩ : ∃ p, Lib.BuilderAt 100 5 B b p (Lib.byteCells l) w := by
    rcases h with h | h
    · exact ⟨_, h⟩
    · exact ⟨_, h⟩
  have hl0 : l.length ≠ 0 := by simpa using h0
  rw [Lib.byteCells_length] at hown
  obtain ⟨g, cap, cur, rfl, hbg, hg, hnc, hcm, hcs, htake⟩ : ∃ g cap cur, v = .slice (some ⟨g, 0, none⟩) l.length cap ∧ B ≤ g ∧ w.heap[g]? = some (.cells cur 5 (0, 0)) ∧ l.length ≤ cap ∧ cap ≤ maxLen ∧ cur.size = cap * 1 ∧ cur.toList.take (l.length * 1) = Lib.byteCells l := by
    rcases hown.2 with ⟨_, hz⟩ | ⟨g, cap, cur, hv, r⟩
    · exact absurd hz hl0
    · exact ⟨g, cap, cur, hv, r⟩
  have c1 : w.drew.cell? ⟨b, 1, none⟩ = some (.slice (some ⟨g, 0, none⟩) l.length cap) := by
    have : w.drew.heap[b]? = some (.cells #[p, .slice (some ⟨g, 0, none⟩) l.length cap] 100 (0, 0)) := hbk
    rw [Lib.cell_of_heap this]; rfl
  have hSD : (Builtin.unsafeSliceData_ #[98] 147 #[.slice (some ⟨g, 0, none⟩) l.length cap]).run Tryz.prog w.drew = .ok (.pointer (some ⟨g, 0, none⟩)) w.drew :=
    Lib.run_unsafeSliceData_row _ _ _ _ _ _ (by omega)
  have hUS : (Builtin.unsafeString_ #[147, 3] 9 #[.pointer (some ⟨g, 0, none⟩), .int .i64 l.length]).run Tryz.prog w.drew = .ok (.string ⟨l.toArray⟩) (w.drew.freeze ⟨g, 0, none⟩ l.length) := by
    refine Lib.run_unsafeString_row w.drew 147 3 9 5 Tryz.underlying147 (by kernel_rfl) g cur.size (by have hg' : w.drew.heap[g]? = some (.cells cur 5 (0, 0)) := hg; simp [World.shape?, hg']) l h0 (by omega) (by unfold maxLen at hcm; omega) ?_
    intro j x hx
    have := hown.cells (g := g) rfl j (.int .u8 x.toNat) (by simp [Lib.byteCells, hx])
    exact this
  have mixed : Tryz.prog.follows .mixedOrders = true := by kernel_rfl
  clear htake hcs hown hbk hg
  go_enter Tryz.func54, Tryz.ntmps54
  go_wp2_with fail
  go_region_o
  all_goals
    go_wp2_with fail
    go_ret
    exact ⟨rfl, Lib.below_freeze (Below.drew (Below.refl B w)) (p := ⟨g, 0, none⟩) hbg _⟩

theorem wAns (dg : Int) : ∀ g, Fit g → WAns dg g := by
  intro g
  induction g using Gm.ind with
  | h k l s f e ee kids ih =>
    intro hfit
    by_cases h7 : k = 7
    · subst h7
      have hk := (fit_eq ..).1 hfit
      exact write7 dg l s f e ee kids hfit fun g hg => ih g hg (hk.2.2.2.2 g hg)
    · have hfit' := (fit_eq ..).1 hfit
      intro B b eb q w t hrep h hp hlen
      obtain ⟨hqB, c0, hf, he, hee, _⟩ := rep_cells hrep
      obtain ⟨v, c2, hv⟩ := hf h7
      obtain ⟨hF, rfl⟩ := hfit'.2.2.1 h7
      have hL : layoutT (.mk k l s f e ee []) = l := by rw [layoutT_eq, if_neg (fun h => h7 h.1)]
      have hT : textT dg (.mk k l s f e ee []) = nameT k ++ tagT l ++ flatT dg k l f e ee := by rw [textT_eq, hL, if_neg h7]
      have hO : okT (.mk k l s f e ee []) ↔ l ≤ 4 := by rw [okT_eq, hL]; simp
      rw [hT] at hlen
      have key : Calls Tryz.prog 53 #[.pointer (some ⟨eb, 0, none⟩), .pointer (some ⟨b, 0, none⟩), .iface (tyOf k) (.pointer (some ⟨q, 0, none⟩))] w fun en w' => Below B w w' ∧ (l ≤ 4 → en = .returned .nilIface ∧ BB w' B b (t ++ (nameT k ++ tagT l ++ flatT dg k l f e ee))) ∧ (4 < l → ∃ u, en = .returned (.iface 134 u)) := by
        have hk8 : k = 1 ∨ k = 2 ∨ k = 3 ∨ k = 4 ∨ k = 5 ∨ k = 6 ∨ k = 8 := by have := hfit'.1; have := hfit'.2.1; omega
        rcases hk8 with rfl | rfl | rfl | rfl | rfl | rfl | rfl
        · exact write1 B b eb q dg l f e ee t v w hqB c0 c2 hv h hp hF hlen
        · exact write2 B b eb q dg l f e ee t v w hqB c0 c2 hv h hp hF hlen
        · obtain ⟨ve, c4, hve⟩ := he (by simp)
          exact write3 B b eb q dg l f e ee t v ve w hqB c0 c2 hv c4 hve h hp hF hlen
        · obtain ⟨ve, c4, hve⟩ := he (by simp)
          exact write4 B b eb q dg l f e ee t v ve w hqB c0 c2 hv c4 hve h hp hF hlen
        · obtain ⟨ve, c4, hve⟩ := he (by simp)
          exact write5 B b eb q dg l f e ee t v ve w hqB c0 c2 hv c4 hve h hp hF hlen
        · obtain ⟨ve, c4, hve⟩ := hee (by simp)
          exact write6 B b eb q dg l f e ee t v ve w hqB c0 c2 hv c4 hve h hp hF hlen
        · exact write8 B b eb q dg l f e ee t v w hqB c0 c2 hv h hp hF hlen
      refine key.mono ?_
      rintro en w' ⟨h1, h2, h3⟩
      refine ⟨h1, fun ho => ?_, fun hn => h3 (by rw [hO] at hn; omega)⟩
      rw [hT]
      exact h2 (hO.1 ho)
end Go.Proofs.YtlmilelopajdiaaGreatDoor
