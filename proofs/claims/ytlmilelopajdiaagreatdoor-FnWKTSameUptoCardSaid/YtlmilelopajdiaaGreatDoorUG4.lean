/-
  Encode, NewEncoder, Marshal, impl.WriteWKT's deferred function.
-/
import Derived.Test.YtlmilelopajdiaaGreatDoorUF1
import Derived.Test.YtlmilelopajdiaaGreatDoorUG2
import Derived.Defers
import Derived.Recover
namespace Go.Proofs.YtlmilelopajdiaaGreatDoor
open Go.RowKit

theorem FRow.mono {w : World} {B B' : Nat} {v : Value} {xs : List Nat} (h : FRow w B v xs) (hb : B ≤ B') : FRow w B' v xs := by
  obtain ⟨h1, h0, h2 | ⟨b, o, cap, h2, h3, h4, h5, h6⟩⟩ := h
  · exact ⟨h1, h0, Or.inl h2⟩
  · exact ⟨h1, h0, Or.inr ⟨b, o, cap, h2, by omega, h4, h5, h6⟩⟩
theorem IRow.mono {w : World} {B B' : Nat} {v : Value} {xs : List Nat} (h : IRow w B v xs) (hb : B ≤ B') : IRow w B' v xs := by
  obtain ⟨h1, h0, h2 | ⟨b, o, cap, h2, h3, h4, h5, h6⟩⟩ := h
  · exact ⟨h1, h0, Or.inl h2⟩
  · exact ⟨h1, h0, Or.inr ⟨b, o, cap, h2, by omega, h4, h5, h6⟩⟩
theorem SRow.mono {w : World} {B B' : Nat} {v : Value} {xs : List (List Nat)} (h : SRow w B v xs) (hb : B ≤ B') : SRow w B' v xs := by
  obtain ⟨h1, h2 | ⟨b, o, cap, h2, h3, h4, h5, h6⟩⟩ := h
  · exact ⟨h1, Or.inl h2⟩
  · exact ⟨h1, Or.inr ⟨b, o, cap, h2, by omega, h4, h5, fun j hj => by obtain ⟨u, hu1, hu2⟩ := h6 j hj; exact ⟨u, hu1, hu2.mono hb⟩⟩⟩
theorem rep_mono {w : World} {B B' : Nat} {g : Gm} {u : Value} (h : Rep w B g u) (hb : B ≤ B') : Rep w B' g u := by
  induction g using Gm.ind generalizing u with
  | h k l s f e ee kids ih =>
    unfold Rep at h ⊢
    obtain ⟨b, h1, h2, h3, h4, h5, h6, h7⟩ := h
    refine ⟨b, h1, by omega, h3, fun hk => ?_, fun hk => ?_, fun hk => ?_, fun hk => ?_⟩
    · obtain ⟨v, a1, a2⟩ := h4 hk
      exact ⟨v, a1, a2.mono hb⟩
    · obtain ⟨v, a1, a2⟩ := h5 hk
      exact ⟨v, a1, a2.mono hb⟩
    · obtain ⟨v, a1, a2⟩ := h6 hk
      exact ⟨v, a1, a2.mono hb⟩
    · obtain ⟨v, a1, a0, a2⟩ := h7 hk
      refine ⟨v, a1, a0, ?_⟩
      rcases a2 with a2 | ⟨c, o, cap, a2, a3, a4, a5, a6⟩
      · exact Or.inl a2
      · refine Or.inr ⟨c, o, cap, a2, by omega, a4, a5, fun j hj => ?_⟩
        obtain ⟨x, x1, x2⟩ := a6 j hj
        exact ⟨x, x1, ih _ (List.getElem_mem hj) x2⟩
theorem textT_ne (dg : Int) (g : Gm) : textT dg g ≠ [] := by
  cases g with
  | mk k l s f e ee kids =>
    rw [textT_eq]
    have : nameT k ≠ [] := by
      unfold nameT
      repeat' split
      all_goals simp
    intro h
    rw [List.append_eq_nil_iff, List.append_eq_nil_iff] at h
    exact this h.1.1
set_option maxRecDepth 100000 in
theorem optDig (w : World) (ob db : Nat) (dg : Int) (u : Value) (hd : w.cell? ⟨db, 0, none⟩ = some (.int .i64 dg)) (h : w.cell? ⟨ob, 0, none⟩ = some u) (hf : w.frozen? ⟨ob, 0, none⟩ = false) :
    Calls Tryz.prog 49 #[.pointer (some ⟨ob, 0, none⟩), .pointer (some ⟨db, 0, none⟩)] w fun e w' => e = .returned (.tuple #[]) ∧ w' = w.setCell ⟨ob, 0, none⟩ (.int .i64 dg) := by
  go_enter Tryz.func49, Tryz.ntmps49
  go_wp2_with fail
  go_end0
  exact ⟨rfl, rfl⟩
set_option maxRecDepth 100000 in
theorem optDigits (w : World) (dg : Int) : Calls Tryz.prog 18 #[.int .i64 dg] w fun e w' => e = .returned (.func (.func 49) #[] #[.pointer (some ⟨w.heap.size, 0, none⟩)]) ∧ w' = w.alloc (.cells #[.int .i64 dg] 3) := by
  go_enter Tryz.func18, Tryz.ntmps18
  go_wp2_with fail
  go_ret
  exact ⟨rfl, rfl⟩
set_option maxRecDepth 100000 in
set_option maxHeartbeats 2000000 in
theorem newEncoder (w : World) (dg : Int) (ob db : Nat) (h1 : w.cell? ⟨ob, 0, none⟩ = some (.func (.func 49) #[] #[.pointer (some ⟨db, 0, none⟩)])) (h2 : w.cell? ⟨db, 0, none⟩ = some (.int .i64 dg)) (ho : ob < w.heap.size) (hd : db < w.heap.size) :
    Calls Tryz.prog 25 #[.slice (some ⟨ob, 0, none⟩) 1 1] w fun e w' => e = .returned (.pointer (some ⟨w.heap.size, 0, none⟩)) ∧ w' = w.alloc (.cells #[.int .i64 dg] 94) := by
  go_enter Tryz.func25, Tryz.ntmps25
  go_wp2_with fail
  go_loopg [10] 1 (fun g v10 wr => ∃ (k : Nat) (u : Int), k + g = 1 ∧ v10 = .int .i64 k ∧ wr = w.alloc (.cells #[.int .i64 u] 94) ∧ (k = 1 → u = dg))
  case atStart => exact ⟨0, -1, rfl, rfl, rfl, fun h => absurd h (by decide)⟩
  case round =>
    obtain ⟨k, u, hk, rfl, rfl, hu1⟩ := hrel
    by_cases hk0 : k = 0
    · subst hk0
      clear hu1
      go_wp2_with fail
      have hd2 : (w.alloc (.cells #[.int .i64 u] 94)).cell? ⟨db, 0, none⟩ = some (.int .i64 dg) := by
        rw [cell_heap (Below.heap_alloc w _ db hd)]; exact h2
      refine (optDig _ w.heap.size db dg (.int .i64 u) hd2 (by go_cell) (by go_cell)).mono ?_
      rintro e w' ⟨rfl, rfl⟩
      go_wp2_with fail
      go_roundg (gk - 1)
      case measure => omega
      case rel => exact ⟨1, dg, by omega, by go_num, rfl, fun _ => rfl⟩
    · obtain rfl : k = 1 := by omega
      obtain rfl := hu1 rfl
      go_wp2_with fail
      go_ret
      exact ⟨rfl, rfl⟩
/-- What Encode answers. -/
def EncAns (dg : Int) (g : Gm) (w : World) (e : Ending) (w' : World) : Prop := Below w.heap.size w w' ∧ (okT g → e = .returned (.tuple #[.string ⟨(textT dg g).toArray⟩, .nilIface])) ∧ (¬ okT g → ∃ u, e = .returned (.tuple #[.string ⟨#[]⟩, .iface 134 u]))
set_option maxRecDepth 100000 in
set_option maxHeartbeats 2000000 in
theorem encode (g : Gm) (dg : Int) (w : World) (eb q : Nat) (T : TypeId) (hTy : T = tyOf g.kind) (hf : Fit g) (hr : Rep w w.heap.size g (.iface T (.pointer (some ⟨q, 0, none⟩)))) (hT : Tabs w.heap.size w) (he : w.cell? ⟨eb, 0, none⟩ = some (.int .i64 dg)) (heb : eb < w.heap.size) (d0 : -1 ≤ dg) (d1 : dg ≤ 20) (hlen : (textT dg g).length + 200 ≤ 70000000000000) :
    Calls Tryz.prog 26 #[.pointer (some ⟨eb, 0, none⟩), .iface T (.pointer (some ⟨q, 0, none⟩))] w fun e w' => EncAns dg g w e w' := by
  obtain ⟨B, hB⟩ : ∃ B, B = w.heap.size := ⟨_, rfl⟩
  obtain ⟨W1, hW1⟩ : ∃ W1, W1 = w.alloc (.cells #[.pointer none, .slice none 0 0] 100) := ⟨_, rfl⟩
  have hbw : Below B w W1 := by rw [hW1, hB]; exact (Below.refl _ _).alloc (Nat.le_refl _) _
  have hsz : W1.heap.size = B + 1 := by rw [hW1, hB]; simp
  have HW : Hid (Calls Tryz.prog 53 #[.pointer (some ⟨eb, 0, none⟩), .pointer (some ⟨B, 0, none⟩), .iface T (.pointer (some ⟨q, 0, none⟩))] W1 fun en w' => Below B W1 w' ∧ (okT g → en = .returned .nilIface ∧ BB w' B B ([] ++ textT dg g)) ∧ (¬ okT g → ∃ u, en = .returned (.iface 134 u))) := Lib.hid (by
    have := wAns dg g hf B B eb q W1 [] (by rw [← hTy, hB]; exact (by rw [hB] at hbw; exact hr.below hbw)) (by rw [hW1, hB]; exact Lib.fresh_isBuilder 100 5 w) ⟨by rw [← hB] at hT; exact hT.below hbw, by omega, by rw [hbw.cell (by show eb < B; omega)]; exact he, by omega, d0, d1⟩ (by simp; omega)
    rw [← hTy] at this
    exact this)
  have HBW := Lib.hid hbw
  have HSZ := Lib.hid hsz
  have HB := Lib.hid hB
  clear hr hT he hlen hf hTy hbw hsz
  go_enter Tryz.func26, Tryz.ntmps26
  go_wp2_with fail
  rw [← hW1, ← hB]
  clear hW1 hB
  refine HW.out.mono ?_
  rintro en w2 ⟨hb2, h3, h4⟩
  have HB2 := Lib.hid hb2
  by_cases hok : okT g
  · obtain ⟨rfl, hbb⟩ := h3 hok
    have HBB := Lib.hid hbb
    have HOK := Lib.hid hok
    clear h3 h4 hbb hb2 hok HW
    go_wp2_with fail
    refine (builderString B B (textT dg g) w2 (by have := HBB.out; rw [List.nil_append] at this; exact this) (textT_ne dg g)).mono ?_
    rintro en w3 ⟨rfl, hb3⟩
    have HB3 := Lib.hid hb3
    clear hb3
    go_wp2_with fail
    go_ret2
    refine ⟨?_, fun _ => rfl, fun h => absurd HOK.out h⟩
    rw [← HB.out]
    exact HBW.out.trans (HB2.out.trans HB3.out)
  · obtain ⟨u, rfl⟩ := h4 hok
    have HOK := Lib.hid hok
    clear h3 h4 hb2 hok HW
    go_wp2_with fail
    go_ret2
    refine ⟨?_, fun h => absurd h HOK.out, fun _ => ⟨_, rfl⟩⟩
    rw [← HB.out]
    exact HBW.out.trans HB2.out
set_option maxRecDepth 100000 in
set_option maxHeartbeats 2000000 in
theorem marshal (g : Gm) (dg : Int) (w : World) (ob db q : Nat) (T : TypeId) (hTy : T = tyOf g.kind) (hf : Fit g) (hr : Rep w w.heap.size g (.iface T (.pointer (some ⟨q, 0, none⟩)))) (hT : Tabs w.heap.size w) (h1 : w.cell? ⟨ob, 0, none⟩ = some (.func (.func 49) #[] #[.pointer (some ⟨db, 0, none⟩)])) (h2 : w.cell? ⟨db, 0, none⟩ = some (.int .i64 dg)) (ho : ob < w.heap.size) (hd : db < w.heap.size)
    (d0 : -1 ≤ dg) (d1 : dg ≤ 20) (hlen : (textT dg g).length + 200 ≤ 70000000000000) :
    Calls Tryz.prog 16 #[.iface T (.pointer (some ⟨q, 0, none⟩)), .slice (some ⟨ob, 0, none⟩) 1 1] w fun e w' => EncAns dg g w e w' := by
  obtain ⟨W1, hW1⟩ : ∃ W1, W1 = w.alloc (.cells #[.int .i64 dg] 94) := ⟨_, rfl⟩
  have HNE : Hid (Calls Tryz.prog 25 #[.slice (some ⟨ob, 0, none⟩) 1 1] w fun e w' => e = .returned (.pointer (some ⟨w.heap.size, 0, none⟩)) ∧ w' = W1) := Lib.hid (by rw [hW1]; exact newEncoder w dg ob db h1 h2 ho hd)
  have hbw : Below w.heap.size w W1 := by rw [hW1]; exact (Below.refl _ _).alloc (Nat.le_refl _) _
  have hsz : W1.heap.size = w.heap.size + 1 := by rw [hW1]; simp
  have HEN : Hid (Calls Tryz.prog 26 #[.pointer (some ⟨w.heap.size, 0, none⟩), .iface T (.pointer (some ⟨q, 0, none⟩))] W1 fun e w' => EncAns dg g W1 e w') := Lib.hid (by
    refine encode g dg W1 w.heap.size q T hTy hf ?_ ?_ ?_ (by omega) d0 d1 hlen
    · exact rep_mono (hr.below hbw) (by omega)
    · exact (hT.below hbw).mono (by omega)
    · rw [hW1, Lib.cell_of_heap (heap_alloc_new w _)]; rfl)
  have HBW := Lib.hid hbw
  clear hr hT h1 h2 ho hd hlen hf hTy hbw hsz hW1
  go_enter Tryz.func16, Tryz.ntmps16
  go_wp2_with fail
  refine HNE.out.mono ?_
  rintro en w' ⟨rfl, rfl⟩
  go_wp2_with fail
  refine HEN.out.mono ?_
  rintro en w2 ⟨e1, e2, e3⟩
  have E1 := Lib.hid e1
  by_cases hok : okT g
  · obtain rfl := e2 hok
    have HOK := Lib.hid hok
    clear e1 e2 e3 hok HNE HEN
    go_wp2_with fail
    go_ret2
    exact ⟨HBW.out.trans (E1.out.mono HBW.out.size), fun _ => rfl, fun h => absurd HOK.out h⟩
  · obtain ⟨u, rfl⟩ := e3 hok
    have HOK := Lib.hid hok
    clear e1 e2 e3 hok HNE HEN
    go_wp2_with fail
    go_ret2
    exact ⟨HBW.out.trans (E1.out.mono HBW.out.size), fun h => absurd h HOK.out, fun _ => ⟨_, rfl⟩⟩
end Go.Proofs.YtlmilelopajdiaaGreatDoor

/-
  impl.WriteWKT.
-/
namespace Go.Proofs.YtlmilelopajdiaaGreatDoor
open Go.RowKit

theorem catchIdle (p q : Addr) (w : World) :
    CallsD Tryz.prog 15 #[.pointer (some p), .pointer (some q)] .returning w fun e u' w' => e = .returned (.tuple #[]) ∧ u' = .returning ∧ w' = w := by
  refine callsD_of_wpS Tryz.func15 rfl fun c₀ cs hu => ?_
  apply wpS_seq
  apply wpS_region
  simp [wpOpsS, go_sem, recoverD, hu, Tryz.ntmps15, Exit.thenS]
  refine wpS_cond (t := false) (by simp [Act.eval, Array.replicate]) ?_
  simp only [Bool.false_eq_true, if_false]
  refine wpS_of_wp (wp_skip ?_)
  cases c₀
  simp_all [bodyPostS, results, Tryz.results15]
/-- What impl.WriteWKT answers. -/
def WAnsI (dg : Int) (g : Gm) (w : World) (e : Ending) (w' : World) : Prop := Below w.heap.size w w' ∧ (okT g → e = .returned (.tuple #[.string ⟨(textT dg g).toArray⟩, .bool true])) ∧ (¬ okT g → e = .returned (.tuple #[.string ⟨#[]⟩, .bool false]))

set_option maxRecDepth 100000 in
set_option maxHeartbeats 4000000 in
theorem implWrite (g : Gm) (dg : Int) (w : World) (B : Nat) (cs : List Value) (hf : Fit g) (hs : Sane g) (hm : Mk g) (ha : ARep w B g cs) (hB : B ≤ w.heap.size) (hT : Tabs B w) (d0 : -1 ≤ dg) (d1 : dg ≤ 20) (hlen : (textT dg g).length + 200 ≤ 70000000000000) :
    Calls Tryz.prog 7 #[.agg cs.toArray, .int .i64 dg] w fun e w' => WAnsI dg g w e w' := by
  obtain ⟨kj, lj, sj, a3, n3, p3, a4, n4, p4, a5, n5, p5, a6, n6, p6, hcs⟩ : ∃ kj lj sj a3 n3 p3 a4 n4 p4 a5 n5 p5 a6 n6 p6, cs = [.int .i64 kj, .int .i64 lj, .int .i64 sj, .slice a3 n3 p3, .slice a4 n4 p4, .slice a5 n5 p5, .slice a6 n6 p6] := by
    have har := ha
    cases g
    rw [arep_eq] at har
    obtain ⟨vf, ve, vee, vk, e, hf, he, ⟨vs, hvs, _⟩, css', hrk, _⟩ := har
    obtain ⟨a3, p3, h3⟩ := hf.lit
    obtain ⟨a4, p4, h4⟩ := he.lit
    obtain ⟨a5, p5, h5⟩ := hvs.lit
    obtain ⟨a6, p6, h6⟩ := hrk.lit
    exact ⟨_, _, _, a3, _, p3, a4, _, p4, a5, _, p5, a6, _, p6, by rw [e, h3, h4, h5, h6]⟩
  subst hcs
  obtain ⟨W1, hW1⟩ : ∃ W1, W1 = ((w.alloc (.cells #[.int .i64 kj, .int .i64 lj, .int .i64 sj, .slice a3 n3 p3, .slice a4 n4 p4, .slice a5 n5 p5, .slice a6 n6 p6] 27)).alloc (.cells #[.string ⟨#[]⟩] 9)).alloc (.cells #[.bool false] 4) := ⟨_, rfl⟩
  obtain ⟨N, hN⟩ : ∃ N, N = w.heap.size := ⟨_, rfl⟩
  have hsz : W1.heap.size = N + 3 := by rw [hW1, hN]; simp
  have hbw : Below N w W1 := by
    rw [hW1, hN]
    exact ((((Below.refl _ _).alloc (Nat.le_refl _) _).alloc (by simp) _).alloc (by simp; omega) _)
  have hMK : Hid (Calls Tryz.prog 17 #[.agg #[.int .i64 kj, .int .i64 lj, .int .i64 sj, .slice a3 n3 p3, .slice a4 n4 p4, .slice a5 n5 p5, .slice a6 n6 p6]] W1 fun e w2 => ∃ T q, e = .returned (.iface T (.pointer (some ⟨q, 0, none⟩))) ∧ Hid (T = tyOf g.kind ∧ RepS w2 (Betw W1 w2) g (.iface T (.pointer (some ⟨q, 0, none⟩))) ∧ Below W1.heap.size W1 w2)) := Lib.hid (by
    refine (mAns g hf hs hm W1 W1.heap.size _ (ARep.below (hbw.mono (by omega)) (by omega) g _ ha) (Nat.le_refl _)).mono ?_
    rintro en w5 ⟨u, rfl, hr, hbl⟩
    obtain ⟨q, hu⟩ : ∃ q, u = .iface (tyOf g.kind) (.pointer (some ⟨q, 0, none⟩)) := by
      cases g
      unfold RepS at hr
      obtain ⟨q, e, _⟩ := hr
      exact ⟨q, e⟩
    subst hu
    exact ⟨_, q, rfl, Lib.hid ⟨rfl, hr, hbl⟩⟩)
  have c4 : W1.cell? ⟨N + 1, 0, none⟩ = some (.string ⟨#[]⟩) := by rw [hW1, hN]; go_cell
  have c5 : W1.cell? ⟨N + 1 + 1, 0, none⟩ = some (.bool false) := by rw [hW1, hN]; go_cell
  have f4 : W1.frozen? ⟨N + 1, 0, none⟩ = false := by rw [hW1, hN]; go_cell
  have f5 : W1.frozen? ⟨N + 1 + 1, 0, none⟩ = false := by rw [hW1, hN]; go_cell
  have hmf : ∀ (fn : Fn) (first cap : Array Value) (w : World), (Instr.makeFunc fn first cap).run Tryz.prog w = .ok (.func fn first cap) w := fun _ _ _ _ => rfl
  have HB := Lib.hid hbw
  have HT := Lib.hid hT
  have HS := Lib.hid hs
  have HF := Lib.hid hf
  have HLEN := Lib.hid hlen
  clear ha hf hs hm hT hlen hbw
  go_enter_defers Tryz.func7, Tryz.ntmps7
  go_wp2_with fail
  rw [← hW1, ← hN]
  have HN := Lib.hid hN
  clear hW1 hN
  refine hMK.out.mono ?_
  rintro en w2 ⟨T, q, rfl, HR⟩
  go_wp2_with fail
  refine (optDigits w2 dg).mono ?_
  rintro en w' ⟨rfl, rfl⟩
  have hb3 : Below w2.heap.size w2 (w2.alloc (.cells #[.int .i64 dg] 3)) := (Below.refl _ _).alloc (Nat.le_refl _) _
  have hs3 : (w2.alloc (.cells #[.int .i64 dg] 3)).heap.size = w2.heap.size + 1 := by simp
  have hc3 : (w2.alloc (.cells #[.int .i64 dg] 3)).cell? ⟨w2.heap.size, 0, none⟩ = some (.int .i64 dg) := by rw [Lib.cell_of_heap (heap_alloc_new w2 _)]; rfl
  generalize w2.alloc _ = w3 at *
  have HB3 := Lib.hid hb3
  have HS3 := Lib.hid hs3
  have HC3 := Lib.hid hc3
  clear hb3 hs3 hc3
  go_wp2_with fail
  have hb4 : Below w3.heap.size w3 (w3.alloc (.cells #[.func (.func 49) #[] #[.pointer (some ⟨w2.heap.size, 0, none⟩)]] 48)) := (Below.refl _ _).alloc (Nat.le_refl _) _
  have hs4 : (w3.alloc (.cells #[.func (.func 49) #[] #[.pointer (some ⟨w2.heap.size, 0, none⟩)]] 48)).heap.size = w3.heap.size + 1 := by simp
  have hc4 : (w3.alloc (.cells #[.func (.func 49) #[] #[.pointer (some ⟨w2.heap.size, 0, none⟩)]] 48)).cell? ⟨w3.heap.size, 0, none⟩ = some (.func (.func 49) #[] #[.pointer (some ⟨w2.heap.size, 0, none⟩)]) := by rw [Lib.cell_of_heap (heap_alloc_new w3 _)]; rfl
  generalize w3.alloc _ = w4 at *
  have h24 : Below w2.heap.size w2 w4 := HB3.out.trans (hb4.mono HB3.out.size)
  have HMA := Lib.hid (marshal g dg w4 w3.heap.size w2.heap.size q T HR.out.1 HF.out (RepS.rep g (Betw W1 w2) _ (HR.out.2.1.frame _ _ _ _ (fun _ h => h) (fun b hb => h24.block b hb.2)) (fun b hb => by have := h24.size; have := hb.2; omega) HS.out)
    ((HT.out.below (((HB.out.trans (HR.out.2.2.mono (by omega))).trans (h24.mono (by have := HR.out.2.2.size; omega))).mono (by have := HN.out; omega))).mono (by have := h24.size; have := HR.out.2.2.size; have := HN.out; omega)) hc4 (by rw [hb4.cell (by show w2.heap.size < _; have := HS3.out; omega)]; exact HC3.out) (by omega) (by have := HS3.out; omega) d0 d1 HLEN.out)
  have H14 : Hid (Below W1.heap.size W1 w4) := Lib.hid (HR.out.2.2.trans (h24.mono HR.out.2.2.size))
  clear hb4 hs4 hc4 h24 HB3 HS3 HC3 HF HS HT hMK HR
  refine HMA.out.mono ?_
  rintro en w5 ⟨e1, e2, e3⟩
  have H15 : Hid (Below W1.heap.size W1 w5) := Lib.hid (H14.out.trans (e1.mono H14.out.size))
  have d4 : w5.cell? ⟨N + 1, 0, none⟩ = some (.string ⟨#[]⟩) := by rw [H15.out.cell (by show N + 1 < _; omega)]; exact c4
  have d5 : w5.cell? ⟨N + 1 + 1, 0, none⟩ = some (.bool false) := by rw [H15.out.cell (by show N + 1 + 1 < _; omega)]; exact c5
  have k4 : w5.frozen? ⟨N + 1, 0, none⟩ = false := by rw [H15.out.frozen (by show N + 1 < _; omega)]; exact f4
  have k5 : w5.frozen? ⟨N + 1 + 1, 0, none⟩ = false := by rw [H15.out.frozen (by show N + 1 + 1 < _; omega)]; exact f5
  have H05 : Hid (Below N w w5) := Lib.hid (HB.out.trans (H15.out.mono (by omega)))
  clear c4 c5 f4 f5 HMA H14 H15 e1
  by_cases hok : okT g
  · obtain rfl := e2 hok
    have HOK := Lib.hid hok
    clear e2 e3 hok
    go_wp2_with fail
    go_region
    all_goals
      have hb6 : Below N w5 (((w5.setCell ⟨N + 1, 0, none⟩ (.string ⟨(textT dg g).toArray⟩)).setCell ⟨N + 1 + 1, 0, none⟩ (.bool true)).drew) := (((Below.refl N w5).setCell (p := ⟨N + 1, 0, none⟩) (by show N ≤ N + 1; omega) _).setCell (p := ⟨N + 1 + 1, 0, none⟩) (by show N ≤ N + 1 + 1; omega) _).drew
      have m4 : (((w5.setCell ⟨N + 1, 0, none⟩ (.string ⟨(textT dg g).toArray⟩)).setCell ⟨N + 1 + 1, 0, none⟩ (.bool true)).drew).cell? ⟨N + 1, 0, none⟩ = some (.string ⟨(textT dg g).toArray⟩) := by go_cell
      have m5 : (((w5.setCell ⟨N + 1, 0, none⟩ (.string ⟨(textT dg g).toArray⟩)).setCell ⟨N + 1 + 1, 0, none⟩ (.bool true)).drew).cell? ⟨N + 1 + 1, 0, none⟩ = some (.bool true) := by go_cell
      generalize ((w5.setCell ⟨N + 1, 0, none⟩ (.string ⟨(textT dg g).toArray⟩)).setCell ⟨N + 1 + 1, 0, none⟩ (.bool true)).drew = w6 at *
      have H6 := Lib.hid (H05.out.trans hb6)
      clear hb6 d4 d5 k4 k5
      go_wp2_with fail
      refine leaves_cons (f := 15) (args := #[.pointer (some ⟨N + 1, 0, none⟩), .pointer (some ⟨N + 1 + 1, 0, none⟩)]) (by simp) (by simp [go_sem]) ?_
      refine (catchIdle ⟨N + 1, 0, none⟩ ⟨N + 1 + 1, 0, none⟩ _).mono ?_
      rintro e u' w'' ⟨rfl, rfl, rfl⟩
      have HFIN : WAnsI dg g w (.returned (.tuple #[.string ⟨(textT dg g).toArray⟩, .bool true])) w'' := by
        refine ⟨by rw [← HN.out]; exact H6.out, ?_⟩
        exact ⟨fun _ => rfl, fun h => absurd HOK.out h⟩
      simp [Leaves, settle, results, Tryz.results7, go_sem, m4, m5]
      exact HFIN
  · obtain ⟨u, rfl⟩ := e3 hok
    have HOK := Lib.hid hok
    clear e2 e3 hok
    go_wp2_with fail
    go_region
    all_goals
      have hb6 : Below N w5 (((w5.setCell ⟨N + 1, 0, none⟩ (.string ⟨#[]⟩)).setCell ⟨N + 1 + 1, 0, none⟩ (.bool false)).drew) := (((Below.refl N w5).setCell (p := ⟨N + 1, 0, none⟩) (by show N ≤ N + 1; omega) _).setCell (p := ⟨N + 1 + 1, 0, none⟩) (by show N ≤ N + 1 + 1; omega) _).drew
      have m4 : (((w5.setCell ⟨N + 1, 0, none⟩ (.string ⟨#[]⟩)).setCell ⟨N + 1 + 1, 0, none⟩ (.bool false)).drew).cell? ⟨N + 1, 0, none⟩ = some (.string ⟨#[]⟩) := by go_cell
      have m5 : (((w5.setCell ⟨N + 1, 0, none⟩ (.string ⟨#[]⟩)).setCell ⟨N + 1 + 1, 0, none⟩ (.bool false)).drew).cell? ⟨N + 1 + 1, 0, none⟩ = some (.bool false) := by go_cell
      generalize ((w5.setCell ⟨N + 1, 0, none⟩ (.string ⟨#[]⟩)).setCell ⟨N + 1 + 1, 0, none⟩ (.bool false)).drew = w6 at *
      have H6 := Lib.hid (H05.out.trans hb6)
      clear hb6 d4 d5 k4 k5
      go_wp2_with fail
      refine leaves_cons (f := 15) (args := #[.pointer (some ⟨N + 1, 0, none⟩), .pointer (some ⟨N + 1 + 1, 0, none⟩)]) (by simp) (by simp [go_sem]) ?_
      refine (catchIdle ⟨N + 1, 0, none⟩ ⟨N + 1 + 1, 0, none⟩ _).mono ?_
      rintro e u' w'' ⟨rfl, rfl, rfl⟩
      have HFIN : WAnsI dg g w (.returned (.tuple #[.string ⟨#[]⟩, .bool false])) w'' := by
        refine ⟨by rw [← HN.out]; exact H6.out, ?_⟩
        exact ⟨fun h => absurd h HOK.out, fun _ => rfl⟩
      simp [Leaves, settle, results, Tryz.results7, go_sem, m4, m5]
      exact HFIN
end Go.Proofs.YtlmilelopajdiaaGreatDoor
