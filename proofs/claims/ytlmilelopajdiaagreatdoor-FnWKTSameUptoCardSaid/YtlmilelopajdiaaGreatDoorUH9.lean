/-
  The statement's side: the parts of a geometry.
-/
import Derived.Test.YtlmilelopajdiaaGreatDoorUH2
import Derived.Deep.RegionHeldLaw
import Derived.Deep.CutBlock
import Derived.Handy
namespace Go.Proofs.YtlmilelopajdiaaGreatDoor
open Go.RowKit

def numP : Gm → Nat
  | .mk k _ _ _ e ee kids => if k = 3 ∨ k = 4 ∨ k = 5 then e.length else if k = 6 then ee.length else kids.length
def partG : Gm → Nat → Gm
  | .mk k l _ f e ee kids, i => if k = 7 then kids.getD i (.mk 0 0 0 [] [] [] []) else if k = 6 then .mk 3 l 0 ((f.take (tJ ee (i + 1)).toNat).drop (tJ ee i).toNat) ((ee.getD i []).map fun x => x - tJ ee i) [] [] else
    .mk (if k = 3 then 8 else k - 3) l 0 ((f.take (e.getD i 0).toNat).drop (prevE 0 e i).toNat) [] [] []
set_option maxRecDepth 100000 in
theorem numParts (g : Gm) (hk : Fit g) (w : World) (B : Nat) (cs : List Value) (h : ARep w B g cs) : Calls Tryz.prog 50 #[.agg cs.toArray] w fun e w' => e = .returned (.int .i64 (numP g)) ∧ Below w.heap.size w w' := by
  obtain ⟨s', a3, p3, a4, p4, a5, p5, a6, p6, hcs⟩ := arep_lit h
  cases g with
  | mk k l s f e ee kids =>
  simp only [Gm.kind, Gm.layout, Gm.flat, Gm.ends, Gm.endss, Gm.kids] at hcs
  rw [hcs]
  have hk' := (fit_eq ..).1 hk
  have hk8 : k = 1 ∨ k = 2 ∨ k = 3 ∨ k = 4 ∨ k = 5 ∨ k = 6 ∨ k = 7 ∨ k = 8 := by omega
  obtain ⟨n3, hn3⟩ : ∃ n, n = f.length := ⟨_, rfl⟩
  obtain ⟨n4, hn4⟩ : ∃ n, n = e.length := ⟨_, rfl⟩
  obtain ⟨n5, hn5⟩ : ∃ n, n = ee.length := ⟨_, rfl⟩
  obtain ⟨n6, hn6⟩ : ∃ n, n = kids.length := ⟨_, rfl⟩
  have HN : Hid (numP (.mk k l s f e ee kids) = if k = 3 ∨ k = 4 ∨ k = 5 then n4 else if k = 6 then n5 else n6) := Lib.hid (by unfold numP; rw [hn4, hn5, hn6])
  rw [← hn3, ← hn4, ← hn5, ← hn6]
  clear hk hk' h hcs hn3 hn4 hn5 hn6
  rcases hk8 with rfl | rfl | rfl | rfl | rfl | rfl | rfl | rfl
  all_goals
    go_enter Tryz.func50, Tryz.ntmps50
    go_wp2_with fail
    go_ret
    exact ⟨by rw [HN.out]; rfl, (Below.refl _ _).alloc (Nat.le_refl _) _⟩
/-- What Part answers. -/
def PAns (g : Gm) (i : Nat) (w : World) (e : Ending) (w' : World) : Prop := ∃ cs', e = .returned (.agg cs'.toArray) ∧ ARep w' w'.heap.size (partG g i) cs' ∧ Below w.heap.size w w'
theorem res4 (tmps : Array Value) (w : World) (b : Nat) (cs : Array Value) (hp : tmps.getD 4 undef = .pointer (some ⟨b, 0, none⟩)) (hg : w.heap[b]? = some (.cells cs 27 (0, 0))) (hc : cs.size = 7) : (results Tryz.f51 tmps).run Tryz.prog w = .ok (.agg cs) w :=
  results_cell_row rfl tmps w b 27 cs (0, 0) _ hp hg Tryz.underlying27 rfl (by rw [hc]; kernel_rfl)

set_option maxRecDepth 100000 in
set_option maxHeartbeats 2000000 in
theorem part7 (l s : Int) (f : List Nat) (e : List Int) (ee : List (List Int)) (kids : List Gm) (w : World) (B : Nat) (cs : List Value) (h : ARep w B (.mk 7 l s f e ee kids) cs) (hB : B ≤ w.heap.size) (i : Nat) (hi : i < kids.length) :
    Calls Tryz.prog 51 #[.agg cs.toArray, .int .i64 (i : Nat)] w fun e' w' => PAns (.mk 7 l s f e ee kids) i w e' w' := by
  obtain ⟨s', a3, p3, a4, p4, a5, p5, a6, p6, hcs⟩ := arep_lit h
  simp only [Gm.kind, Gm.layout, Gm.flat, Gm.ends, Gm.endss, Gm.kids] at hcs
  rw [hcs] at h ⊢
  rw [arep_eq] at h
  obtain ⟨vf, ve, vee, vk, e1, _, _, _, css, hrk, hcl, hkid⟩ := h
  simp only [List.cons.injEq, and_true] at e1
  obtain ⟨_, _, _, _, _, _, e7⟩ := e1
  subst e7
  obtain ⟨n3, hn3⟩ : ∃ n, n = f.length := ⟨_, rfl⟩
  obtain ⟨n4, hn4⟩ : ∃ n, n = e.length := ⟨_, rfl⟩
  obtain ⟨n5, hn5⟩ : ∃ n, n = ee.length := ⟨_, rfl⟩
  obtain ⟨N, hN⟩ : ∃ n, n = kids.length := ⟨_, rfl⟩
  rw [← hn3, ← hn4, ← hn5, ← hN]
  rw [← hN] at hrk hcl hi
  have hNb := rowK_len hrk
  obtain ⟨W2, hW2⟩ : ∃ W2, W2 = (w.alloc (.cells #[.int .i64 7, .int .i64 l, .int .i64 s', .slice a3 n3 p3, .slice a4 n4 p4, .slice a5 n5 p5, .slice a6 N p6] 27)).alloc (.cells #[.int .i64 0, .int .i64 0, .int .i64 0, .slice none 0 0, .slice none 0 0, .slice none 0 0, .slice none 0 0] 27) := ⟨_, rfl⟩
  have hbw : Below w.heap.size w W2 := by rw [hW2]; exact ((Below.refl _ _).alloc (Nat.le_refl _) _).alloc (by simp) _
  obtain ⟨g, kb, ko, gk', gl, gs, b3, m3, r3, b4, m4, r4, b5, m5, r5, b6, m6, r6, hg, rfl, hkB, d0, d1, d2, d3, d4, d5, d6, HAR, _⟩ := kid_round hrk (by rw [hcl, hN]) hkid hcl.symm hi (Below.refl B w) hB
  rw [← hbw.cell (show kb < w.heap.size by omega), hW2] at d0
  rw [← hbw.cell (show kb < w.heap.size by omega), hW2] at d1
  rw [← hbw.cell (show kb < w.heap.size by omega), hW2] at d2
  rw [← hbw.cell (show kb < w.heap.size by omega), hW2] at d3
  rw [← hbw.cell (show kb < w.heap.size by omega), hW2] at d4
  rw [← hbw.cell (show kb < w.heap.size by omega), hW2] at d5
  rw [← hbw.cell (show kb < w.heap.size by omega), hW2] at d6
  have HPG : Hid (partG (.mk 7 l s f e ee kids) i = g) := Lib.hid (by simp [partG, List.getD, hg])
  have HA : Hid (∀ w', Below w.heap.size w w' → ARep w' w'.heap.size g [.int .i64 gk', .int .i64 gl, .int .i64 gs, .slice b3 m3 r3, .slice b4 m4 r4, .slice b5 m5 r5, .slice b6 m6 r6]) := Lib.hid (fun w' hb => by
    exact ARep.below hb hb.size g _ HAR.out)
  clear hcs hrk hcl hkid hn3 hn4 hn5 hN hbw hg hW2 HAR
  go_enter Tryz.func51, Tryz.ntmps51
  go_wp2_with fail
  refine bodyPost_ret (res4 _ _ (w.heap.size + 1) #[.int .i64 gk', .int .i64 gl, .int .i64 gs, .slice b3 m3 r3, .slice b4 m4 r4, .slice b5 m5 r5, .slice b6 m6 r6] rfl ?_ rfl) rfl ?_
  · exact heap_alloc2_new _ _ _
  · have hb : Below w.heap.size w ((w.alloc (.cells #[.int .i64 7, .int .i64 l, .int .i64 s, .slice a3 n3 p3, .slice a4 n4 p4, .slice a5 n5 p5, .slice (some ⟨kb, ko, none⟩) N p6] 27)).alloc (.cells #[.int .i64 gk', .int .i64 gl, .int .i64 gs, .slice b3 m3 r3, .slice b4 m4 r4, .slice b5 m5 r5, .slice b6 m6 r6] 27)) := ((Below.refl _ _).alloc (Nat.le_refl _) _).alloc (by simp) _
    exact ⟨_, rfl, by rw [HPG.out]; exact HA.out _ hb, hb⟩
end Go.Proofs.YtlmilelopajdiaaGreatDoor

/-
  The statement's side: what Part answers at the kinds with ends; append as a step, the world written out.
-/
namespace Go.Proofs.YtlmilelopajdiaaGreatDoor
open Go.RowKit

/-- append to an empty slice, that grows: the world written out. -/
theorem step_append_lit {ops : Array Oper} {o : Oper} {a : Act} {w : World} {K : Act → World → Prop} {Q : Exit → Act → World → Prop} {E : Prop}
    (hg : o.guard = none) (s x : Operand) (hop : o.op = Op.call { callee := Callee.builtin Builtin.append, args := #[s, x], argTypes := #[22, 22] })
    (b0 : Nat) (hs : a.eval s = .slice (some ⟨b0, 0, none⟩) 0 0)
    (ad : Addr) (m c : Nat) (news : List Value) (hx : a.eval x = .slice (some ad) m c) (hn : news.length = m) (hc : ∀ (j : Nat) (u : Value), news[j]? = some u → w.cell? (ad.add j) = some u) (hm : 0 < m) (b1 : m ≤ 1000000000)
    (hK : ∀ (C : Array Value) (cap : Nat), m ≤ cap → cap ≤ 9223372036854775807 → (∀ (j : Nat) (u : Value), news[j]? = some u → C[j]? = some u) → K (a.put o.dst (.slice (some ⟨w.heap.size, 0, none⟩) m cap)) (w.drew.alloc (.cells C 32))) :
    if Region.wanted o (yielded ops a.tmps) = true then Oper.wp Tryz.prog o a w K Q else E := by
  have hw : Region.wanted o (yielded ops a.tmps) = true := by simp [Region.wanted, hg]
  rw [if_pos hw]
  obtain ⟨i0, hi, hz0, hz1, hz2⟩ := info_parts info32
  have hrun := run_append_grow (P := Tryz.prog) w 22 o.type 32 i0 (.float .f64 0) Tryz.underlying22 hi hz0 ⟨b0, 0, none⟩ 0 0 [] (by simp) (fun j u h => by simp at h) ad m c news (by rw [hz1, hn]; omega) hc (by omega) (by omega) (growslice_fits (by omega) (by rw [hz2]; omega))
  have hge := grownCap_ge w (0 + m) 0 32
  have hle := grownCap_le_maxLen w (0 + m) 0 32 (by unfold maxLen; omega)
  rw [Nat.zero_add] at hrun hge hle
  unfold Oper.wp
  simp only [execOp, hop, resolve, invoke, builtin, Sem.run_bind, Sem.run_pure, Result.andThen_ok, List.map_toArray, List.map_cons, List.map_nil, hs, hx, hrun]
  refine hK _ _ hge (by unfold maxLen at hle; omega) (fun j u hu => ?_)
  obtain ⟨hj, hju⟩ := List.getElem?_eq_some_iff.1 hu
  simp [Array.getElem?_append, hj, hju]
/-- A slice in a block of its own. -/
def OwnT (w w' : World) (v : Value) (vals : List Value) : Prop := Row w' w'.heap.size v vals ∧ ∀ b, v.ownBlock = some b → w.heap.size ≤ b
/-- What Part answers at the kinds with ends. -/
def PEOut (kd l : Int) (vals : List Value) (w : World) (e' : Ending) (w' : World) : Prop := ∃ v, e' = .returned (.agg #[.int .i64 kd, .int .i64 l, .int .i64 0, v, .slice none 0 0, .slice none 0 0, .slice none 0 0]) ∧ OwnT w w' v vals ∧ Below w.heap.size w w'
theorem heap3P (w : World) (A P E : Obj) : (((w.alloc A).alloc P).alloc E).heap[w.heap.size + 1]? = some P := by
  rw [Below.heap_alloc ((w.alloc A).alloc P) E (w.heap.size + 1) (by simp)]
  exact heap_alloc2_new w A P
theorem heap4P (w : World) (A P E C : Obj) : ((((w.alloc A).alloc P).alloc E).alloc C).heap[w.heap.size + 1]? = some P := by
  rw [Below.heap_alloc (((w.alloc A).alloc P).alloc E) C (w.heap.size + 1) (by simp)]
  exact heap3P w A P E
theorem heap4C (w : World) (A P E C : Obj) : ((((w.alloc A).alloc P).alloc E).alloc C).heap[w.heap.size + 1 + 1 + 1]? = some C := by
  have h : (((w.alloc A).alloc P).alloc E).heap.size = w.heap.size + 1 + 1 + 1 := by simp
  rw [← h]
  exact heap_alloc_new _ C
theorem cell4C (w : World) (A P E : Obj) (C : Array Value) (j : Nat) : ((((w.alloc A).alloc P).alloc E).alloc (.cells C 32)).drew.drew.cell? ⟨w.heap.size + 1 + 1 + 1, j, none⟩ = C[j]? :=
  Lib.cell_of_heap (w := (((w.alloc A).alloc P).alloc E).alloc (.cells C 32)) (heap4C w A P E (.cells C 32)) j
end Go.Proofs.YtlmilelopajdiaaGreatDoor
